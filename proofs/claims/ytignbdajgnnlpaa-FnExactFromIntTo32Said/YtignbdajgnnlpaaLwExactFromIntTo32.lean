/-
  The walk of a law.
-/
import Derived.Test.YtignbdajgnnlpaaSpecF
import Derived.Test.YtignbdajgnnlpaaFuW
import Derived.Test.YtignbdajgnnlpaaFrame
import Derived.Test.YtignbdajgnnlpaaFmtB
namespace Go.Proofs.Ytignbdajgnnlpaa.SF
open Go.ChangeShapes Go.WideShapes Go.ChangeAt Go.RowKit
set_option linter.unusedVariables false
set_option maxRecDepth 100000 in
set_option maxHeartbeats 4000000 in
theorem fnExactFromIntTo32 (n : Int) (w : World) (hn : -9223372036854775808 ≤ n ∧ n ≤ 9223372036854775807) : Calls Try.prog 10 #[.int .i64 n] w (LawPost w) := by
  have SP := Lib.hid fun w => ffromI32_any n w hn
  have I1 := Lib.hid fun w => implFromIntTo32 n w hn
  have I2 := Lib.hid fun w => implFromInt64To32 n w hn
  have lr := fromN_lt32 (decide (n < 0)) n.natAbs
  generalize fromN32 (decide (n < 0)) n.natAbs = r at *
  have cr : IntKind.u64.wrap (r : Int) = (r : Int) := wrap_u64_nat (by omega)
  clear hn lr
  have B0 := Lib.hid (Below.refl w.heap.size w)
  go_enter Try.func10, Try.ntmps10
  go_wp2_with fail
  refine (fmt32_any _).mono ?_
  rintro e u1 ⟨rfl, hb⟩
  have B1 := Lib.hid (below_trans' B0.out hb)
  clear hb
  go_wp2_with fail
  refine (SP.out _).mono ?_
  rintro e u2 ⟨rfl, hb⟩
  have B2 := Lib.hid (below_trans' B1.out hb)
  clear hb
  go_wp2_with fail
  refine (I1.out _).mono ?_
  rintro e w' ⟨rfl, rfl⟩
  go_wp2_with fail
  refine (I2.out _).mono ?_
  rintro e w' ⟨rfl, rfl⟩
  go_wp2_with fail
  go_ret
  exact ⟨rfl, B2.out⟩
end Go.Proofs.Ytignbdajgnnlpaa.SF
