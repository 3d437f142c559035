/-
  Plain mathematics: a number that is moved to the left.
-/
import Derived.Test.YtignbdajgnnlpaaBits
namespace Go.Proofs.Ytignbdajgnnlpaa.SF
open Go.RowKit

theorem shl_less {m d : Nat} (h : m * 2 ^ d < 18446744073709551616) : IntKind.u64.wrap ((m : Int) * 2 ^ d) = ((m * 2 ^ d : Nat) : Int) := by
  have e : (m : Int) * 2 ^ d = ((m * 2 ^ d : Nat) : Int) := by rw [Int.natCast_mul, Int.natCast_pow]; rfl
  rw [e]
  exact wrap_u64_nat h
end Go.Proofs.Ytignbdajgnnlpaa.SF
