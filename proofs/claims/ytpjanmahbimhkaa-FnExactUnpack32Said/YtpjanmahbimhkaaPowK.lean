/-
  Plain mathematics: a bound by a count of digits.
-/
import Derived.Test.YtpjanmahbimhkaaCore
namespace Go.Proofs.Ytpjanmahbimhkaa.SF
theorem pow_lt_K {n k K : Nat} (h : n < 2 ^ k) (hk : k ≤ 32 * K) : n < 2 ^ (32 * K) := Nat.lt_of_lt_of_le h (Nat.pow_le_pow_right (by omega) hk)
end Go.Proofs.Ytpjanmahbimhkaa.SF
