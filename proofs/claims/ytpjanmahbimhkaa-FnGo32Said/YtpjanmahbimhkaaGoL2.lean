/-
  A float of 32 bits among numbers of 64 bits.
-/
import Derived.Test.YtpjanmahbimhkaaGoL
import Derived.Test.YtpjanmahbimhkaaAlgC
namespace Go.Proofs.Ytpjanmahbimhkaa.SF
open Go.RowKit
theorem fv_lt32 {n : Bool} {r : Nat} (hr : r < 4294967296) (w0 : World) (x y : Nat) : IntKind.u64.wrap ((fv n r (nanv32 w0 x y) : Nat) : Int) = ((fv n r (nanv32 w0 x y) : Nat) : Int) := by
  have h := (nanv_lt32 w0 x y).1
  refine wrap_u64_nat ?_
  unfold fv
  split <;> omega
theorem widen_keys {x y : Nat} (nx : isNaN32 x = false) (ny : isNaN32 y = false) : (key64 (widen x) = key64 (widen y) ↔ key32 x = key32 y) ∧ (key64 (widen x) < key64 (widen y) ↔ key32 x < key32 y) := by
  have h := widen_ord nx ny
  unfold ordI at h
  constructor
  · constructor
    · intro e
      rw [if_neg (by omega), if_pos e] at h
      by_cases h1 : key32 x < key32 y
      · rw [if_pos h1] at h; cases h
      · rw [if_neg h1] at h
        by_cases h2 : key32 x = key32 y
        · exact h2
        · rw [if_neg h2] at h; cases h
    · intro e
      rw [if_neg (show ¬ key32 x < key32 y by omega), if_pos e] at h
      by_cases h1 : key64 (widen x) < key64 (widen y)
      · rw [if_pos h1] at h; cases h
      · rw [if_neg h1] at h
        by_cases h2 : key64 (widen x) = key64 (widen y)
        · exact h2
        · rw [if_neg h2] at h; cases h
  · constructor
    · intro e
      rw [if_pos e] at h
      by_cases h1 : key32 x < key32 y
      · exact h1
      · rw [if_neg h1] at h
        by_cases h2 : key32 x = key32 y
        · rw [if_pos h2] at h; cases h
        · rw [if_neg h2] at h; cases h
    · intro e
      rw [if_pos e] at h
      by_cases h1 : key64 (widen x) < key64 (widen y)
      · exact h1
      · rw [if_neg h1] at h
        by_cases h2 : key64 (widen x) = key64 (widen y)
        · rw [if_pos h2] at h; cases h
        · rw [if_neg h2] at h; cases h
end Go.Proofs.Ytpjanmahbimhkaa.SF
