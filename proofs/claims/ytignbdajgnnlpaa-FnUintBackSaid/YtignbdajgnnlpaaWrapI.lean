/-
  The thin package's conversions of whole numbers to 64 bits.
-/
import Derived.Test.YtignbdajgnnlpaaIntW
namespace Go.Proofs.Ytignbdajgnnlpaa.SF
open Go.ChangeShapes Go.WideShapes Go.ChangeAt Go.RowKit
set_option linter.unusedVariables false

set_option maxRecDepth 100000 in
theorem implFromInt32 (n : Int) (w : World) (hn : -2147483648 ≤ n ∧ n ≤ 2147483647) : Calls Try.prog 29 #[.int .i32 n] w (RetW (.int .u64 ((fromN64 (decide (n < 0)) n.natAbs : Nat) : Int)) w) := by
  have H := Lib.hid (fintto64_ret n w (by omega))
  have cw : IntKind.i64.wrap n = n := IntWalk.i64_in _ (by omega)
  generalize fromN64 (decide (n < 0)) n.natAbs = c at *
  clear hn
  go_enter Try.func29, Try.ntmps29
  go_wp2_with (first | (go_at_call 83; refine (H.out).mono ?_; rintro e w' ⟨rfl, rfl⟩) | go_in)
  go_ret
  exact ⟨rfl, rfl⟩
end Go.Proofs.Ytignbdajgnnlpaa.SF
