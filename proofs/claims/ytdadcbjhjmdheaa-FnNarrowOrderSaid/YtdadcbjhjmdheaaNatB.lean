/-
  The walks through the reference's numbers: NatAdd, NatSub.
-/
import Derived.Test.YtdadcbjhjmdheaaNatA
import Derived.Laws.OwnMore
namespace Go.Proofs.Ytdadcbjhjmdheaa.SF
open Go.ChangeShapes Go.WideShapes Go.ChangeAt Go.RowKit
set_option linter.unusedVariables false

theorem info_u32 : (Try.prog.info? 22).map (fun i => (i.zero, i.size, i.bytes)) = some (some (.int .u32 0), 1, 4) := by kernel_rfl

def u32s (rs : List Nat) : List Value := rs.map fun d : Nat => Value.int .u32 (d : Int)

theorem u32s_append (rs : List Nat) (d : Nat) : u32s (rs ++ [d]) = u32s rs ++ [.int .u32 (d : Int)] := by simp [u32s]

/-- a row of digits that the call itself made -/
def Own (w : World) (B : Nat) (v : Value) (rs : List Nat) : Prop := w.ownsRow B 22 1 v rs.length (u32s rs) ∧ ∀ d ∈ rs, d < 4294967296

theorem Own.row {w : World} {B : Nat} {v : Value} {rs : List Nat} (h : Own w B v rs) : ∃ A cap, v = .slice A rs.length cap ∧ Row w A rs.length cap rs := by
  obtain ⟨h1, h2⟩ := h
  have h1' := h1
  obtain ⟨hl, ⟨rfl, hn⟩ | ⟨g, cap, cur, rfl, hB, hh, hcap, _, hsz, htk⟩⟩ := h1
  · rw [hn]
    have : rs = [] := List.length_eq_zero_iff.mp hn
    subst this
    exact ⟨none, 0, rfl, rfl, Nat.le_refl _, by simp, fun h => absurd h (by omega)⟩
  · refine ⟨_, cap, rfl, rfl, hcap, h2, fun hn => ⟨g, rfl, ?_, fun i hi => ?_⟩⟩
    · rcases Nat.lt_or_ge g w.heap.size with hlt | hge
      · exact hlt
      · rw [Array.getElem?_eq_none hge] at hh; cases hh
    · have hc := h1'.cells (g := g) rfl i (.int .u32 ((rs.getD i 0 : Nat) : Int)) (by
        simp [u32s, List.getD_eq_getElem?_getD, hi])
      have e : (⟨g, 0, none⟩ : Addr).add i = ⟨g, i, none⟩ := by unfold Addr.add; split <;> simp_all
      rw [e] at hc; exact hc

theorem Own.nil (w : World) (B : Nat) : Own w B (.slice none 0 0) [] := ⟨World.ownsRow_nil _ _ _ _, by simp⟩

theorem add_mod_lt {cy a b : Nat} (h1 : a < 4294967296) (h2 : b < 4294967296) (hc : cy ≤ 1) : cy + (a + b) = (cy + (a + b)) % 4294967296 + (cy + (a + b)) / 4294967296 * 4294967296 ∧ (cy + (a + b)) / 4294967296 ≤ 1 := by omega

theorem dval_append (rs : List Nat) (d : Nat) : dval (rs ++ [d]) = dval rs + d * 2 ^ (32 * rs.length) := by
  induction rs with
  | nil => simp [dval]
  | cons r rs ih =>
    rw [List.cons_append, dval, ih, dval, List.length_cons, pow32_succ, Nat.mul_add, Nat.add_assoc]
    congr 2
    rw [Nat.mul_left_comm]

theorem dval_lt {rs : List Nat} (h : ∀ d ∈ rs, d < 4294967296) : dval rs < 2 ^ (32 * rs.length) := by
  rw [dval_dvf]; exact dvf_lt (fun i => digit_lt h i) _

theorem Own.push {w w1 : World} {B : Nat} {v v' : Value} {rs : List Nat} {d : Nat} (h : Own w B v rs) (hd : d < 4294967296) (h1 : w1.ownsRow B 22 1 v' (rs.length + 1) (u32s rs ++ [.int .u32 (d : Int)])) : Own w1 B v' (rs ++ [d]) := by
  refine ⟨?_, ?_⟩
  · rw [u32s_append, List.length_append]; exact h1
  · intro x hx
    rw [List.mem_append] at hx
    rcases hx with hx | hx
    · exact h.2 x hx
    · simp at hx; omega

theorem below_append {w wr w1 : World} {B : Nat} {v : Value} {rs : List Nat} (o : Obj) (hb : Below B w wr) (hB : B ≤ w.heap.size) (h : Own wr B v rs) (hg : (wr.alloc o).grownBy w1 v.ownBlock) : Below B w w1 := by
  have hsz := hb.size
  have hb1 := hb.alloc (o := o) (by omega)
  refine hb1.grown hg (by simp; omega) ?_
  intro k hk
  obtain ⟨_, ⟨rfl, _⟩ | ⟨g, cap, cur, rfl, hBg, _⟩⟩ := h.1
  · simp [Value.ownBlock] at hk
  · simp [Value.ownBlock] at hk; omega

structure AddRel (B : Nat) (w : World) (M : Nat) (ds es : List Nat) (v c i : Value) (wr : World) : Prop where
  ex : ∃ (k cy : Nat) (rs : List Nat), i = .int .i64 (k : Int) ∧ c = .int .u64 (cy : Int) ∧ rs.length = k ∧ Own wr B v rs ∧
    dvf (fun i => ds.getD i 0) k + dvf (fun i => es.getD i 0) k = dval rs + cy * 2 ^ (32 * k) ∧ cy ≤ 1 ∧ Below B w wr ∧ k ≤ M + 1
def msAdd (M : Nat) (i : Value) : Nat := M + 2 - (intOf i).toNat

theorem add_step {ds es rs : List Nat} {k cy d1 d2 : Nat} (hk : rs.length = k) (h : dvf (fun i => ds.getD i 0) k + dvf (fun i => es.getD i 0) k = dval rs + cy * 2 ^ (32 * k)) (e1 : ds.getD k 0 = d1) (e2 : es.getD k 0 = d2) :
    dvf (fun i => ds.getD i 0) (k + 1) + dvf (fun i => es.getD i 0) (k + 1) = dval (rs ++ [(cy + (d1 + d2)) % 4294967296]) + (cy + (d1 + d2)) / 4294967296 * 2 ^ (32 * (k + 1)) := by
  rw [dval_append, hk, dvf, dvf, pow32_succ]
  simp only [e1, e2]
  have hd := Nat.div_add_mod (cy + (d1 + d2)) 4294967296
  generalize (cy + (d1 + d2)) / 4294967296 = q at *
  generalize (cy + (d1 + d2)) % 4294967296 = r at *
  have hp : (cy + (d1 + d2)) * 2 ^ (32 * k) = (4294967296 * q + r) * 2 ^ (32 * k) := by rw [hd]
  rw [Nat.add_mul, Nat.add_mul, Nat.add_mul, Nat.mul_right_comm] at hp
  have e3 : q * (4294967296 * 2 ^ (32 * k)) = 4294967296 * 2 ^ (32 * k) * q := by rw [Nat.mul_comm]
  rw [e3]
  generalize 4294967296 * 2 ^ (32 * k) * q = X at *
  omega

theorem add_last {ds es rs : List Nat} {k cy M : Nat} (hs : ∀ d ∈ ds, d < 4294967296) (hs' : ∀ d ∈ es, d < 4294967296) (h1 : ds.length ≤ M) (h2 : es.length ≤ M) (hk : M + 1 ≤ k)
    (h : dvf (fun i => ds.getD i 0) k + dvf (fun i => es.getD i 0) k = dval rs + cy * 2 ^ (32 * k)) : cy = 0 := by
  rw [← dval_eq ds k (by omega), ← dval_eq es k (by omega)] at h
  have a1 := dval_lt hs
  have a2 := dval_lt hs'
  have b1 : 2 ^ (32 * ds.length) ≤ 2 ^ (32 * M) := Nat.pow_le_pow_right (by omega) (by omega)
  have b2 : 2 ^ (32 * es.length) ≤ 2 ^ (32 * M) := Nat.pow_le_pow_right (by omega) (by omega)
  have b3 : 2 ^ (32 * (M + 1)) ≤ 2 ^ (32 * k) := Nat.pow_le_pow_right (by omega) (by omega)
  rw [pow32_succ] at b3
  rcases Nat.eq_zero_or_pos cy with h0 | h0
  · exact h0
  · have : 2 ^ (32 * k) ≤ cy * 2 ^ (32 * k) := Nat.le_mul_of_pos_left _ h0
    omega

set_option maxRecDepth 100000 in
set_option maxHeartbeats 1000000 in
theorem natAdd_any (w : World) (A : Option Addr) (n cap : Nat) (ds : List Nat) (A' : Option Addr) (n' cap' : Nat) (es : List Nat) (h : Row w A n cap ds) (h' : Row w A' n' cap' es) (hn : n ≤ 3000000) (hn' : n' ≤ 3000000) :
    Calls Try.prog 58 #[.slice A n cap, .slice A' n' cap'] w (NatPost w (dval ds + dval es)) := by
  obtain ⟨i0, hi0, hz0, hz1, hz2⟩ := info_parts info_u32
  obtain ⟨M, hM1, hM2, hM3, hMd⟩ : ∃ M, n ≤ M ∧ n' ≤ M ∧ M ≤ 3000000 ∧ ((n < n' ∧ M = n') ∨ (n' ≤ n ∧ M = n)) := ⟨max n n', by omega, by omega, by omega, by omega⟩
  have H := Lib.hid h
  have H' := Lib.hid h'
  have H0 : AddRel w.heap.size w M ds es (.slice none 0 0) (.int .u64 0) (.int .i64 0) w := ⟨0, 0, [], rfl, rfl, rfl, Own.nil _ _, by simp [dvf, dval], by omega, Below.refl _ _, by omega⟩
  have HM := Lib.hid hMd
  obtain ⟨B, hBd⟩ : ∃ B, B = w.heap.size := ⟨_, rfl⟩
  rw [← hBd] at H0
  have HB := Lib.hid hBd
  clear h h' hMd hBd
  go_enter Try.func58, Try.ntmps58
  go_wp2_with fail
  go_loopw [5, 6, 7] (fun v c i wr => AddRel B w M ds es v c i wr) (fun v c i wr => msAdd M i)
  case atStart => exact H0
  case round =>
    obtain ⟨k, cy, rs, rfl, rfl, hrs, hown, hval, hcy, hbel, hkM⟩ := hrel.ex
    clear hrel H0
    have hrow := H.out.below (by rw [← HB.out]; exact hbel)
    have hrow' := H'.out.below (by rw [← HB.out]; exact hbel)
    have C1 := Lib.hid (digit_any _ _ _ _ k _ hrow (by omega) (by omega))
    have C2 := Lib.hid (digit_any _ _ _ _ k _ hrow' (by omega) (by omega))
    have hd1 := digit_lt H.out.small k
    have hd2 := digit_lt H'.out.small k
    have HV := Lib.hid hval
    have HR := Lib.hid hrs
    have HO := Lib.hid hown
    generalize h1 : ds.getD k 0 = d1 at C1 hd1
    generalize h2 : es.getD k 0 = d2 at C2 hd2
    have G1 := Lib.hid h1
    have G2 := Lib.hid h2
    clear h1 h2 hval hrow hrow' hrs hown
    by_cases hgo : k < M ∨ 0 < cy
    · have hkM' : k ≤ M := by
        rcases hgo with hgo | hgo
        · omega
        · rcases Nat.lt_or_ge M k with hlt | hge
          · have := add_last H.out.small H'.out.small (by rw [H.out.len]; exact hM1) (by rw [H'.out.len]; exact hM2) (by omega) HV.out
            omega
          · exact hge
      have hval2 := add_step HR.out HV.out G1.out G2.out
      obtain ⟨hsum, hcy2⟩ := add_mod_lt hd1 hd2 hcy
      have w1 : IntKind.u32.wrap ((cy : Int) + ((d1 : Int) + (d2 : Int))) = (((cy + (d1 + d2)) % 4294967296 : Nat) : Int) := by rw [IntKind.wrap_u32']; omega
      have w2 : ((cy : Int) + ((d1 : Int) + (d2 : Int))) / 4294967296 = (((cy + (d1 + d2)) / 4294967296 : Nat) : Int) := by omega
      have hlo : (cy + (d1 + d2)) % 4294967296 < 4294967296 := Nat.mod_lt _ (by omega)
      generalize (cy + (d1 + d2)) % 4294967296 = lo at *
      generalize (cy + (d1 + d2)) / 4294967296 = cy2 at *
      have HV2 := Lib.hid hval2
      have HLO := Lib.hid hlo
      have HBL := Lib.hid hbel
      clear hval2 hsum hlo hbel
      have hlen : rs.length ≤ 3000001 := by rw [HR.out]; omega
      have hBsz : B ≤ wr.heap.size := by have := HBL.out.size; rw [HB.out]; exact this
      have hcases : (n < n' ∧ k < n') ∨ (n' ≤ n ∧ k < n) ∨ (n < n' ∧ ¬ k < n' ∧ 0 < cy) ∨ (n' ≤ n ∧ ¬ k < n ∧ 0 < cy) := by have := HM.out; omega
      clear hgo
      rcases hcases with ⟨hx1, hx2⟩ | ⟨hx1, hx2⟩ | ⟨hx1, hx2, hx3⟩ | ⟨hx1, hx2, hx3⟩
      all_goals
        go_wp2_with fail
        refine (C1.out).mono ?_
        rintro e w' ⟨rfl, rfl⟩
        go_wp2_with fail
        refine (C2.out).mono ?_
        rintro e w' ⟨rfl, rfl⟩
        go_wp2_with (at_builtin; refine wpList_append_own _ rfl _ _ 46 rfl B 22 i0 (.int .u32 0) 1 4 Try.underlying46 hi0 hz0 hz1 hz2 rfl (by decide) _ _ _ rfl (HO.out.1.alloc _) ⟨wr.heap.size, 0, none⟩ 1 1 [.int .u32 (lo : Int)] rfl rfl (cell_one_new _ _ _) (by simp [Value.oneCell']) (by unfold maxLen; omega) (by omega) (by simp; omega) ?_; intro v' w1 hown' hgrow _)
        have hown2 := HO.out.push HLO.out hown'
        have hbel2 := below_append _ HBL.out (by rw [HB.out]; exact Nat.le_refl _) HO.out hgrow
        go_roundw
        case rel => exact ⟨k + 1, cy2, rs ++ [lo], by go_num, rfl, by simp [HR.out], hown2, HV2.out, hcy2, hbel2, by omega⟩
        case measure => simp [msAdd, intOf]; omega
    · have hcy0 : cy = 0 := by omega
      subst hcy0
      obtain ⟨A1, cap1, rfl, hr1⟩ := HO.out.row
      have HT := Lib.hid (trim_any _ _ _ _ _ hr1 (by rw [HR.out]; omega))
      have hcases : (n < n' ∧ ¬ k < n') ∨ (n' ≤ n ∧ ¬ k < n) := by have := HM.out; omega
      have hv : dval rs = dval ds + dval es := by
        have := HV.out
        rw [dval_eq ds k (by rw [H.out.len]; omega), dval_eq es k (by rw [H'.out.len]; omega)]
        omega
      have HVV := Lib.hid hv
      have HBL := Lib.hid hbel
      clear hgo hr1 hv hbel
      rcases hcases with ⟨hx1, hx2⟩ | ⟨hx1, hx2⟩
      all_goals
        go_wp2_with fail
        refine (HT.out).mono ?_
        rintro e w' ⟨v, rfl, hn, rfl⟩
        rw [HVV.out] at hn
        have HN := Lib.hid hn
        clear hn
        go_wp2_with fail
        go_ret
        exact ⟨_, rfl, HN.out, by rw [← HB.out]; exact HBL.out⟩
end Go.Proofs.Ytdadcbjhjmdheaa.SF
