/-
  Plain mathematics: sums, products and quotients of whole numbers, by the places in the order.
-/
import Derived.Test.YtpjanmahbimhkaaIntP
import Derived.Test.YtpjanmahbimhkaaOrdK
namespace Go.Proofs.Ytpjanmahbimhkaa.SF
open Go.RowKit
set_option linter.unusedVariables false

theorem eq_mul_from {a b : Int} (ha : a.natAbs ≤ 67108864) (hb : b.natAbs ≤ 67108864) : eqB (mul64 (fromS64 a) (fromS64 b)) (fromS64 (a * b)) = true := by
  have hab : (a * b).natAbs ≤ 9007199254740992 := by
    rw [Int.natAbs_mul]
    exact Nat.le_trans (Nat.mul_le_mul ha hb) (by omega)
  have n1 : isNaN64 (mul64 (fromS64 a) (fromS64 b)) = false := by rw [from_mul ha hb]; exact nan_rd64 _ _ _
  have n2 : isNaN64 (fromS64 (a * b)) = false := nan_rd64 _ _ _
  rw [eqB_key (mul_lt64 _ _) (fromS_lt64 _) n1 n2, from_mul_key ha hb]
  exact decide_eq_true rfl
theorem mul_bd {a b : Int} (ha : a.natAbs ≤ 67108864) (hb : b.natAbs ≤ 67108864) : -9223372036854775808 ≤ a * b ∧ a * b ≤ 9223372036854775807 := by
  have hab : (a * b).natAbs ≤ 4503599627370496 := by
    rw [Int.natAbs_mul]
    exact Nat.le_trans (Nat.mul_le_mul ha hb) (by omega)
  omega
end Go.Proofs.Ytpjanmahbimhkaa.SF
