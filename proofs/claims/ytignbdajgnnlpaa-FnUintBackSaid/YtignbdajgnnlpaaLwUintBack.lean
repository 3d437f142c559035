/-
  The walk of a law.
-/
import Derived.Test.YtignbdajgnnlpaaFuW
import Derived.Test.YtignbdajgnnlpaaToW2
import Derived.Test.YtignbdajgnnlpaaShlB
import Derived.Test.YtignbdajgnnlpaaFrame
namespace Go.Proofs.Ytignbdajgnnlpaa.SF
open Go.ChangeShapes Go.WideShapes Go.ChangeAt Go.RowKit
set_option linter.unusedVariables false
set_option maxRecDepth 100000 in
set_option maxHeartbeats 4000000 in
theorem fnUintBack (n : Nat) (k : Nat) (w : World) (hn : n < 18446744073709551616) (hk : k < 256) : Calls Try.prog 14 #[.int .u64 (n : Int), .int .u8 (k : Int)] w (LawPost w) := by
  obtain ⟨m, hm⟩ : ∃ m, m = n / 2048 := ⟨_, rfl⟩
  obtain ⟨j, hj⟩ : ∃ j, j = k % 12 := ⟨_, rfl⟩
  have e1 : (n : Int) / 2048 = (m : Int) := by omega
  have e2 : (k : Int) % 12 = (j : Int) := by omega
  have hlt : m * 2 ^ j < 18446744073709551616 := by
    have h1 : (2 : Nat) ^ j ≤ 2 ^ 11 := Nat.pow_le_pow_right (by omega) (by omega)
    have h2 : m * 2 ^ j ≤ m * 2 ^ 11 := Nat.mul_le_mul_left _ h1
    omega
  have e3 := shl_less hlt
  have hd : j < 12 := by omega
  have hp := fromN_parts (n := m * 2 ^ j) (m := m) (j := j) false rfl (by omega) hlt
  have hw := wh_from (n := m * 2 ^ j) (m := m) (j := j) false rfl (by omega) hlt
  have I1 := fun w => implFromUint64 (m * 2 ^ j) w hlt
  have I2 := fun w => implToUint64 (fromN64 false (m * 2 ^ j)) w (fromN_lt64 _ _) hp.1 (by rw [hw]; exact hlt) (by rw [hp.2.1]; simp)
  rw [hw] at I2
  generalize fromN64 false (m * 2 ^ j) = r at *
  generalize m * 2 ^ j = q at *
  have I1 := Lib.hid I1
  have I2 := Lib.hid I2
  clear hn hk hm hj hp hw hlt
  have B0 := Lib.hid (Below.refl w.heap.size w)
  go_enter Try.func14, Try.ntmps14
  go_wp2_with fail
  refine (I1.out _).mono ?_
  rintro e w' ⟨rfl, rfl⟩
  go_wp2_with fail
  refine (I2.out _).mono ?_
  rintro e w' ⟨rfl, rfl⟩
  go_wp2_with fail
  go_ret
  exact ⟨rfl, B0.out⟩
end Go.Proofs.Ytignbdajgnnlpaa.SF
