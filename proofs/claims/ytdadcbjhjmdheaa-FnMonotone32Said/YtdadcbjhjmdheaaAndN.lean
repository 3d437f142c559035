/-
  Plain mathematics: the sign bit is taken away.
-/
import Derived.Test.YtdadcbjhjmdheaaUnpWalk
namespace Go.Proofs.Ytdadcbjhjmdheaa.SF
open Go.RowKit
set_option linter.unusedVariables false

theorem andNot_min {n : Int} (hn : -9223372036854775808 ≤ n ∧ n ≤ 9223372036854775807) : ∃ m : Nat, m < 9223372036854775808 ∧ bits .andNot .i64 n (-9223372036854775808) = (m : Int) := by
  refine ⟨(BitVec.ofInt 64 n).toNat % 2 ^ 63, Nat.mod_lt _ (by decide), ?_⟩
  show IntKind.i64.wrap ((BitVec.ofInt 64 n &&& ~~~ BitVec.ofInt 64 (-9223372036854775808)).toNat : Int) = _
  rw [BitVec.toNat_and, show (~~~ BitVec.ofInt 64 (-9223372036854775808)).toNat = 2 ^ 63 - 1 by decide, Nat.and_two_pow_sub_one_eq_mod]
  have h := Nat.mod_lt (BitVec.ofInt 64 n).toNat (show 0 < 2 ^ 63 by decide)
  generalize (BitVec.ofInt 64 n).toNat % 2 ^ 63 = m at *
  rw [IntKind.wrap_i64]
  omega
theorem andNot_sg32 {x : Nat} (hx : x < 4294967296) : bits .andNot .u32 (x : Int) 2147483648 = ((mag32 x : Nat) : Int) := by
  show IntKind.u32.wrap ((BitVec.ofInt 32 (x : Int) &&& ~~~ BitVec.ofInt 32 2147483648).toNat : Int) = _
  have h1 : (BitVec.ofInt 32 (x : Int)).toNat = x := by
    rw [BitVec.ofInt_natCast, BitVec.toNat_ofNat]; exact Nat.mod_eq_of_lt (by omega)
  rw [BitVec.toNat_and, h1, show (~~~ BitVec.ofInt 32 2147483648).toNat = 2 ^ 31 - 1 by decide, Nat.and_two_pow_sub_one_eq_mod]
  have h := mag_lt32 x
  exact wrap_u32_nat (by unfold mag32 at h; omega)
end Go.Proofs.Ytdadcbjhjmdheaa.SF
