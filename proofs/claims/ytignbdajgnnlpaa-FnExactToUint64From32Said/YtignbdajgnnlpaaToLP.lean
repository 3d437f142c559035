/-
  Plain mathematics: what the laws say of floats that are made whole numbers.
-/
import Derived.Test.YtignbdajgnnlpaaToW2
import Derived.Test.YtignbdajgnnlpaaSpecW
namespace Go.Proofs.Ytignbdajgnnlpaa.SF
open Go.RowKit
set_option linter.unusedVariables false

theorem whB_fin64 {x : Nat} (h : whB64 x = true) : fin64 x = true ∧ wh64 x < 18446744073709551616 := by
  unfold whB64 at h
  rw [Bool.and_eq_true, decide_eq_true_iff] at h
  exact h
theorem whB_fin32 {x : Nat} (h : whB32 x = true) : fin32 x = true ∧ wh32 x < 18446744073709551616 := by
  unfold whB32 at h
  rw [Bool.and_eq_true, decide_eq_true_iff] at h
  exact h
theorem tiV_wh64 {x : Nat} (h : whB64 x = true) (h2 : wh64 x < 9223372036854775808) : tiV x = sk (neg64 x) (wh64 x) := tiV_small (whB_fin64 h).1 h2
theorem tiB_not {x : Nat} (h : whB64 x = false) : tiB x = false := by
  unfold tiB
  unfold whB64 at h
  rw [h]; rfl
theorem tiB_wh64 {x : Nat} (h : whB64 x = true) (h2 : wh64 x ≠ 0) : tiB x = true := by
  unfold tiB
  obtain ⟨h3, h4⟩ := whB_fin64 h
  rw [h3, decide_eq_true h4]
  have : -1 ≤ ue64 x := by
    rcases Int.lt_or_le (ue64 x) (-1) with g | g
    · exfalso
      rcases kinds64 x with nx | ⟨nx, ix, zx, mx, gx⟩ | ⟨nx, ix, zx, mx, gx, ex0⟩ | ⟨nx, ix, zx, gx1, gx2, mx1, mx2, ex1, ex2, t1, et1, vt1⟩
      · have := nan_iff64.mp nx
        have := fin_iff64.mp h3
        omega
      · have := fin_iff64.mp h3
        omega
      · omega
      · exact h2 (wh_nought (um := um64 x) (t := t1) mx2 vt1 (by omega))
    · exact g
  rw [decide_eq_true this]; rfl
theorem tiV_wh32 {x : Nat} (h : whB32 x = true) (h2 : wh32 x < 9223372036854775808) : tiV (widen x) = sk (neg32 x) (wh32 x) := by
  obtain ⟨h3, h4⟩ := whB_fin32 h
  obtain ⟨f, n, v⟩ := widen_fin h3
  have hw := wh_widen h3
  rw [tiV_small f (by rw [hw]; exact h2), n, hw]
end Go.Proofs.Ytignbdajgnnlpaa.SF
