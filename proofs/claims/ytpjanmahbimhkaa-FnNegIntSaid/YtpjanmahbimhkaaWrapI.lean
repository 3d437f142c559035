/-
  The thin package's conversions of whole numbers to 64 bits.
-/
import Derived.Test.YtpjanmahbimhkaaIntW
namespace Go.Proofs.Ytpjanmahbimhkaa.SF
open Go.ChangeShapes Go.WideShapes Go.ChangeAt Go.RowKit
set_option linter.unusedVariables false

set_option maxRecDepth 100000 in
theorem implFromInt64 (n : Int) (w : World) (hn : -9223372036854775808 ≤ n ∧ n ≤ 9223372036854775807) : Calls Try.prog 15 #[.int .i64 n] w (RetW (.int .u64 ((fromN64 (decide (n < 0)) n.natAbs : Nat) : Int)) w) := by
  have H := Lib.hid (fintto64_ret n w hn)
  generalize fromN64 (decide (n < 0)) n.natAbs = c at *
  clear hn
  go_enter Try.func15, Try.ntmps15
  go_wp2_with (first | (go_at_call 103; refine (H.out).mono ?_; rintro e w' ⟨rfl, rfl⟩) | go_in)
  go_ret
  exact ⟨rfl, rfl⟩
set_option maxRecDepth 100000 in
theorem implFromInt32 (n : Int) (w : World) (hn : -2147483648 ≤ n ∧ n ≤ 2147483647) : Calls Try.prog 17 #[.int .i32 n] w (RetW (.int .u64 ((fromN64 (decide (n < 0)) n.natAbs : Nat) : Int)) w) := by
  have H := Lib.hid (fintto64_ret n w (by omega))
  have cw : IntKind.i64.wrap n = n := IntWalk.i64_in _ (by omega)
  generalize fromN64 (decide (n < 0)) n.natAbs = c at *
  clear hn
  go_enter Try.func17, Try.ntmps17
  go_wp2_with (first | (go_at_call 103; refine (H.out).mono ?_; rintro e w' ⟨rfl, rfl⟩) | go_in)
  go_ret
  exact ⟨rfl, rfl⟩
end Go.Proofs.Ytpjanmahbimhkaa.SF
