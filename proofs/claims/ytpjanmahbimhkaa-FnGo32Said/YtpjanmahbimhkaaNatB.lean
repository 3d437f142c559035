/-
  The walks through the reference's numbers: NatAdd, NatSub.
-/
import Derived.Test.YtpjanmahbimhkaaNatA
import Derived.Laws.OwnMore
namespace Go.Proofs.Ytpjanmahbimhkaa.SF
open Go.ChangeShapes Go.WideShapes Go.ChangeAt Go.RowKit
set_option linter.unusedVariables false

theorem info_u32 : (Try.prog.info? 35).map (fun i => (i.zero, i.size, i.bytes)) = some (some (.int .u32 0), 1, 4) := by kernel_rfl

def u32s (rs : List Nat) : List Value := rs.map fun d : Nat => Value.int .u32 (d : Int)

theorem u32s_append (rs : List Nat) (d : Nat) : u32s (rs ++ [d]) = u32s rs ++ [.int .u32 (d : Int)] := by simp [u32s]

/-- a row of digits that the call itself made -/
def Own (w : World) (B : Nat) (v : Value) (rs : List Nat) : Prop := w.ownsRow B 35 1 v rs.length (u32s rs) ∧ ∀ d ∈ rs, d < 4294967296

theorem Own.row {w : World} {B : Nat} {v : Value} {rs : List Nat} (h : Own w B v rs) : ∃ A cap, v = .slice A rs.length cap ∧ Row w A rs.length cap rs := by
  obtain ⟨h1, h2⟩ := h
  have h1' := h1
  obtain ⟨hl, ⟨rfl, hn⟩ | ⟨g, cap, cur, rfl, hB, hh, hcap, _, hsz, htk⟩⟩ := h1
  · rw [hn]
    have : rs = [] := List.length_eq_zero_iff.mp hn
    subst this
    exact ⟨none, 0, rfl, rfl, Nat.le_refl _, by simp, fun h => absurd h (by omega)⟩
  · refine ⟨_, cap, rfl, rfl, hcap, h2, fun hn => ⟨g, rfl, ?_, fun i hi => ?_⟩⟩
    · rcases Nat.lt_or_ge g w.heap.size with hlt | hge
      · exact hlt
      · rw [Array.getElem?_eq_none hge] at hh; cases hh
    · have hc := h1'.cells (g := g) rfl i (.int .u32 ((rs.getD i 0 : Nat) : Int)) (by
        simp [u32s, List.getD_eq_getElem?_getD, hi])
      have e : (⟨g, 0, none⟩ : Addr).add i = ⟨g, i, none⟩ := by unfold Addr.add; split <;> simp_all
      rw [e] at hc; exact hc

theorem Own.nil (w : World) (B : Nat) : Own w B (.slice none 0 0) [] := ⟨World.ownsRow_nil _ _ _ _, by simp⟩

theorem add_mod_lt {cy a b : Nat} (h1 : a < 4294967296) (h2 : b < 4294967296) (hc : cy ≤ 1) : cy + (a + b) = (cy + (a + b)) % 4294967296 + (cy + (a + b)) / 4294967296 * 4294967296 ∧ (cy + (a + b)) / 4294967296 ≤ 1 := by omega

theorem dval_append (rs : List Nat) (d : Nat) : dval (rs ++ [d]) = dval rs + d * 2 ^ (32 * rs.length) := by
  induction rs with
  | nil => simp [dval]
  | cons r rs ih =>
    rw [List.cons_append, dval, ih, dval, List.length_cons, pow32_succ, Nat.mul_add, Nat.add_assoc]
    congr 2
    rw [Nat.mul_left_comm]

theorem dval_lt {rs : List Nat} (h : ∀ d ∈ rs, d < 4294967296) : dval rs < 2 ^ (32 * rs.length) := by
  rw [dval_dvf]; exact dvf_lt (fun i => digit_lt h i) _

theorem Own.push {w w1 : World} {B : Nat} {v v' : Value} {rs : List Nat} {d : Nat} (h : Own w B v rs) (hd : d < 4294967296) (h1 : w1.ownsRow B 35 1 v' (rs.length + 1) (u32s rs ++ [.int .u32 (d : Int)])) : Own w1 B v' (rs ++ [d]) := by
  refine ⟨?_, ?_⟩
  · rw [u32s_append, List.length_append]; exact h1
  · intro x hx
    rw [List.mem_append] at hx
    rcases hx with hx | hx
    · exact h.2 x hx
    · simp at hx; omega

theorem below_append {w wr w1 : World} {B : Nat} {v : Value} {rs : List Nat} (o : Obj) (hb : Below B w wr) (hB : B ≤ w.heap.size) (h : Own wr B v rs) (hg : (wr.alloc o).grownBy w1 v.ownBlock) : Below B w w1 := by
  have hsz := hb.size
  have hb1 := hb.alloc (o := o) (by omega)
  refine hb1.grown hg (by simp; omega) ?_
  intro k hk
  obtain ⟨_, ⟨rfl, _⟩ | ⟨g, cap, cur, rfl, hBg, _⟩⟩ := h.1
  · simp [Value.ownBlock] at hk
  · simp [Value.ownBlock] at hk; omega

end Go.Proofs.Ytpjanmahbimhkaa.SF
