/-
  Two local values side by side: a format and a float taken apart; what both are.
-/
import Derived.Test.YtpjanmahbimhkaaUnpI
import Derived.Test.YtpjanmahbimhkaaFmtB
namespace Go.Proofs.Ytpjanmahbimhkaa.SF
open Go.ChangeShapes Go.WideShapes Go.ChangeAt Go.RowKit
set_option linter.unusedVariables false

theorem unp_size {m s um t A B F : Nat} (h : um * 2 ^ t = m * 2 ^ s * 2 ^ F) (hAB : A + t = B + (s + F)) (h0 : A = 0 ∨ B = 0) : m * 2 ^ A = um * 2 ^ B := by
  rcases h0 with h0 | h0
  · subst h0
    apply Nat.eq_of_mul_eq_mul_right (two_pow_pos (s + F))
    rw [Nat.pow_zero, Nat.mul_one, Nat.mul_assoc um, ← Nat.pow_add 2 B, show B + (s + F) = t by omega, h, Nat.pow_add, Nat.mul_assoc]
  · subst h0
    apply Nat.eq_of_mul_eq_mul_right (two_pow_pos t)
    rw [Nat.pow_zero, Nat.mul_one, h, Nat.mul_assoc, ← Nat.pow_add, show A + t = s + F by omega, Nat.pow_add, Nat.mul_assoc]
theorem sgn_bits64 {x : Nat} (hx : x < 18446744073709551616) : bits .and .u64 (x : Int) 9223372036854775808 = ((sgn64 (neg64 x) 0 : Nat) : Int) := by
  have hb := nat_bit 63 x
  rw [show (2 : Nat) ^ 63 = 9223372036854775808 from rfl] at hb
  rw [show (9223372036854775808 : Int) = ((9223372036854775808 : Nat) : Int) from rfl, u64_and_nat _ _ (by omega) (by omega), hb]
  unfold neg64 sgn64
  congr 1
  by_cases h : 9223372036854775808 ≤ x
  · rw [decide_eq_true h, if_pos rfl]; omega
  · rw [decide_eq_false h]; simp only [Bool.false_eq_true, if_false]; omega
/-- what the law asks of the parts of a finite float -/
theorem unp_law64 (x : Nat) (hf : fin64 x = true) : (sm64 x = 0 → um64 x = 0) ∧ (sm64 x ≠ 0 → um64 x / 4503599627370496 = 1 ∧ -1074 ≤ ue64 x ∧ ue64 x ≤ 1023 ∧ um64 x < 9007199254740992 ∧
    ∀ A B : Nat, (A : Int) + ue64 x + 1074 = B + se64 x + 52 → A = 0 ∨ B = 0 → sm64 x * 2 ^ A = um64 x * 2 ^ B) := by
  rcases kinds64 x with nx | ⟨nx, ix, zx, mx, gx⟩ | ⟨nx, ix, zx, mx, gx, ex0⟩ | ⟨nx, ix, zx, gx1, gx2, mx1, mx2, ex1, ex2, t1, et1, vt1⟩
  · have := nan_iff64.mp nx
    have := fin_iff64.mp hf
    omega
  · have := fin_iff64.mp hf
    omega
  · exact ⟨fun _ => mx, fun h => absurd ((sm_zero64 x).mpr gx) h⟩
  · refine ⟨fun h => ?_, fun _ => ⟨by omega, ex1, ex2, mx2, fun A B hAB h0 => ?_⟩⟩
    · have := (sm_zero64 x).mp h; omega
    · rw [val_sm64] at vt1
      exact unp_size (F := 52) (t := t1) vt1 (by omega) h0
abbrev UPW64 (s m e : Int) (i n : Bool) (u1 u2 W : World) : Prop := FB64 u1 W ∧ W.cell? ⟨u2.heap.size, 0, none⟩ = some (.int .u64 s) ∧ W.cell? ⟨u2.heap.size, 1, none⟩ = some (.int .u64 m) ∧ W.cell? ⟨u2.heap.size, 2, none⟩ = some (.int .i64 e) ∧ W.cell? ⟨u2.heap.size, 3, none⟩ = some (.bool i) ∧ W.cell? ⟨u2.heap.size, 4, none⟩ = some (.bool n) ∧ u2.heap.size < W.heap.size
theorem UPW64.start (s m e : Int) (i n : Bool) {u1 u2 : World} (h : FB64 u1 u2) : UPW64 s m e i n u1 u2 (u2.alloc (.cells #[.int .u64 s, .int .u64 m, .int .i64 e, .bool i, .bool n] 44)) :=
  ⟨FB64.step h ((Below.refl _ _).alloc (Nat.le_refl _) _), by simp, by simp, by simp, by simp, by simp, by simp⟩
theorem UPW64.step {s m e : Int} {i n : Bool} {u1 u2 W w1 : World} (h : UPW64 s m e i n u1 u2 W) (hb : Below W.heap.size W w1) : UPW64 s m e i n u1 u2 w1 := by
  obtain ⟨h0, a, b, c, d, e, f⟩ := h
  have hc := bcell hb
  exact ⟨FB64.step h0 hb, (hc _ _ f).trans a, (hc _ _ f).trans b, (hc _ _ f).trans c, (hc _ _ f).trans d, (hc _ _ f).trans e, Nat.lt_of_lt_of_le f hb.size⟩
theorem UPW64.drew {s m e : Int} {i n : Bool} {u1 u2 W : World} (h : UPW64 s m e i n u1 u2 W) : UPW64 s m e i n u1 u2 W.drew := ⟨FB64.drew h.1, h.2⟩
theorem sgn_bits32 {x : Nat} (hx : x < 4294967296) : bits .and .u64 (x : Int) 2147483648 = ((sgn32 (neg32 x) 0 : Nat) : Int) := by
  have hb := nat_bit 31 x
  rw [show (2 : Nat) ^ 31 = 2147483648 from rfl] at hb
  rw [show (2147483648 : Int) = ((2147483648 : Nat) : Int) from rfl, u64_and_nat _ _ (by omega) (by omega), hb]
  unfold neg32 sgn32
  congr 1
  by_cases h : 2147483648 ≤ x
  · rw [decide_eq_true h, if_pos rfl]; omega
  · rw [decide_eq_false h]; simp only [Bool.false_eq_true, if_false]; omega
/-- what the law asks of the parts of a finite float -/
theorem unp_law32 (x : Nat) (hf : fin32 x = true) : (sm32 x = 0 → um32 x = 0) ∧ (sm32 x ≠ 0 → um32 x / 8388608 = 1 ∧ -149 ≤ ue32 x ∧ ue32 x ≤ 127 ∧ um32 x < 16777216 ∧
    ∀ A B : Nat, (A : Int) + ue32 x + 149 = B + se32 x + 23 → A = 0 ∨ B = 0 → sm32 x * 2 ^ A = um32 x * 2 ^ B) := by
  rcases kinds32 x with nx | ⟨nx, ix, zx, mx, gx⟩ | ⟨nx, ix, zx, mx, gx, ex0⟩ | ⟨nx, ix, zx, gx1, gx2, mx1, mx2, ex1, ex2, t1, et1, vt1⟩
  · have := nan_iff32.mp nx
    have := fin_iff32.mp hf
    omega
  · have := fin_iff32.mp hf
    omega
  · exact ⟨fun _ => mx, fun h => absurd ((sm_zero32 x).mpr gx) h⟩
  · refine ⟨fun h => ?_, fun _ => ⟨by omega, ex1, ex2, mx2, fun A B hAB h0 => ?_⟩⟩
    · have := (sm_zero32 x).mp h; omega
    · rw [val_sm32] at vt1
      exact unp_size (F := 23) (t := t1) vt1 (by omega) h0
abbrev UPW32 (s m e : Int) (i n : Bool) (u1 u2 W : World) : Prop := FB32 u1 W ∧ W.cell? ⟨u2.heap.size, 0, none⟩ = some (.int .u64 s) ∧ W.cell? ⟨u2.heap.size, 1, none⟩ = some (.int .u64 m) ∧ W.cell? ⟨u2.heap.size, 2, none⟩ = some (.int .i64 e) ∧ W.cell? ⟨u2.heap.size, 3, none⟩ = some (.bool i) ∧ W.cell? ⟨u2.heap.size, 4, none⟩ = some (.bool n) ∧ u2.heap.size < W.heap.size
theorem UPW32.start (s m e : Int) (i n : Bool) {u1 u2 : World} (h : FB32 u1 u2) : UPW32 s m e i n u1 u2 (u2.alloc (.cells #[.int .u64 s, .int .u64 m, .int .i64 e, .bool i, .bool n] 44)) :=
  ⟨FB32.step h ((Below.refl _ _).alloc (Nat.le_refl _) _), by simp, by simp, by simp, by simp, by simp, by simp⟩
theorem UPW32.step {s m e : Int} {i n : Bool} {u1 u2 W w1 : World} (h : UPW32 s m e i n u1 u2 W) (hb : Below W.heap.size W w1) : UPW32 s m e i n u1 u2 w1 := by
  obtain ⟨h0, a, b, c, d, e, f⟩ := h
  have hc := bcell hb
  exact ⟨FB32.step h0 hb, (hc _ _ f).trans a, (hc _ _ f).trans b, (hc _ _ f).trans c, (hc _ _ f).trans d, (hc _ _ f).trans e, Nat.lt_of_lt_of_le f hb.size⟩
theorem UPW32.drew {s m e : Int} {i n : Bool} {u1 u2 W : World} (h : UPW32 s m e i n u1 u2 W) : UPW32 s m e i n u1 u2 W.drew := ⟨FB32.drew h.1, h.2⟩
end Go.Proofs.Ytpjanmahbimhkaa.SF
