/-
  Plain mathematics: softfloat's comparisons by the floats' places in the order.
-/
import Derived.Test.YtpjanmahbimhkaaWrap
import Derived.Test.YtpjanmahbimhkaaCmpK
namespace Go.Proofs.Ytpjanmahbimhkaa.SF
open Go.RowKit
set_option linter.unusedVariables false

theorem cmpR_key {x y : Nat} (hx : x < 18446744073709551616) (hy : y < 18446744073709551616) (nx : isNaN64 x = false) (ny : isNaN64 y = false) : cmpN x y = false ∧ cmpR x y = ordI (key64 x) (key64 y) := by
  have hn : cmpN x y = false := by unfold cmpN; rw [nx, ny]; rfl
  refine ⟨hn, ?_⟩
  rw [← cmpF_key hx hy]
  exact if_neg (by rw [hn]; decide)
theorem eqB_key {x y : Nat} (hx : x < 18446744073709551616) (hy : y < 18446744073709551616) (nx : isNaN64 x = false) (ny : isNaN64 y = false) : eqB x y = decide (key64 x = key64 y) := by
  obtain ⟨h1, h2⟩ := cmpR_key hx hy nx ny
  unfold eqB
  rw [h1, h2, Bool.not_false, Bool.true_and]
  unfold ordI
  rw [Bool.eq_iff_iff, decide_eq_true_iff, decide_eq_true_iff]
  split
  · omega
  · split <;> omega
theorem gtB_key {x y : Nat} (hx : x < 18446744073709551616) (hy : y < 18446744073709551616) (nx : isNaN64 x = false) (ny : isNaN64 y = false) : gtB x y = decide (key64 y < key64 x) := by
  obtain ⟨h1, h2⟩ := cmpR_key hx hy nx ny
  unfold gtB
  rw [h1, h2, Bool.not_false, Bool.true_and]
  unfold ordI
  rw [Bool.eq_iff_iff, decide_eq_true_iff, decide_eq_true_iff]
  split
  · omega
  · split <;> omega
theorem geB_key {x y : Nat} (hx : x < 18446744073709551616) (hy : y < 18446744073709551616) (nx : isNaN64 x = false) (ny : isNaN64 y = false) : geB x y = decide (key64 y ≤ key64 x) := by
  obtain ⟨h1, h2⟩ := cmpR_key hx hy nx ny
  unfold geB
  rw [h1, h2, Bool.not_false, Bool.true_and]
  unfold ordI
  rw [Bool.eq_iff_iff, decide_eq_true_iff, decide_eq_true_iff]
  split
  · omega
  · split <;> omega
theorem cmp_nan {x y : Nat} (h : isNaN64 x = true ∨ isNaN64 y = true) : eqB x y = false ∧ gtB x y = false ∧ geB x y = false := by
  have hn : cmpN x y = true := by unfold cmpN; rcases h with h | h <;> rw [h] <;> simp
  unfold eqB gtB geB
  rw [hn]
  exact ⟨rfl, rfl, rfl⟩
end Go.Proofs.Ytpjanmahbimhkaa.SF
