/-
  Plain definitions: the nearest float to a whole number.
-/
import Derived.Test.YtignbdajgnnlpaaRn
namespace Go.Proofs.Ytignbdajgnnlpaa.SF
open Go.RowKit

/-- a whole number's nearest float -/
noncomputable def fromN64 (neg : Bool) (n : Nat) : Nat := rd64 neg (n * 2 ^ 1074) 1
theorem fromN_lt64 (neg : Bool) (n : Nat) : fromN64 neg n < 18446744073709551616 := rd_lt64 _ _ _
theorem fromN_zero64 (neg : Bool) : fromN64 neg 0 = sgn64 neg 0 := by
  unfold fromN64
  generalize 2 ^ 1074 = p
  rw [Nat.zero_mul, rd_zero64 neg (by omega)]
/-- a whole number's nearest float -/
noncomputable def fromN32 (neg : Bool) (n : Nat) : Nat := rd32 neg (n * 2 ^ 149) 1
theorem fromN_lt32 (neg : Bool) (n : Nat) : fromN32 neg n < 4294967296 := rd_lt32 _ _ _
theorem fromN_zero32 (neg : Bool) : fromN32 neg 0 = sgn32 neg 0 := by
  unfold fromN32
  generalize 2 ^ 149 = p
  rw [Nat.zero_mul, rd_zero32 neg (by omega)]
theorem from_aux {m a b t : Nat} (h : a + b = t) : m * 2 ^ a * (1 * 2 ^ b) = m * (2 ^ t * 1) * 1 := by
  rw [← h, Nat.pow_add, Nat.one_mul, Nat.mul_one, Nat.mul_one, Nat.mul_assoc]
end Go.Proofs.Ytignbdajgnnlpaa.SF
