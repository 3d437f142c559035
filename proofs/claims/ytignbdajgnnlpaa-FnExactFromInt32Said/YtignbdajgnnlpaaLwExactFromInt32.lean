/-
  The walk of a law.
-/
import Derived.Test.YtignbdajgnnlpaaSpecF
import Derived.Test.YtignbdajgnnlpaaFuW
import Derived.Test.YtignbdajgnnlpaaFrame
import Derived.Test.YtignbdajgnnlpaaFmtB
namespace Go.Proofs.Ytignbdajgnnlpaa.SF
open Go.ChangeShapes Go.WideShapes Go.ChangeAt Go.RowKit
set_option linter.unusedVariables false
set_option maxRecDepth 100000 in
set_option maxHeartbeats 4000000 in
theorem fnExactFromInt32 (n : Int) (w : World) (hn : -2147483648 ≤ n ∧ n ≤ 2147483647) : Calls Try.prog 11 #[.int .i32 n] w (LawPost w) := by
  have hn64 : -9223372036854775808 ≤ n ∧ n ≤ 9223372036854775807 := by omega
  have cn : IntKind.i64.wrap n = n := IntWalk.i64_in _ hn64
  have SP := Lib.hid fun w => ffromI64_any n w hn64
  have SQ := Lib.hid fun w => ffromI32_any n w hn64
  have I1 := Lib.hid fun w => implFromInt32 n w hn
  have I2 := Lib.hid fun w => implFromInt32To32 n w hn
  have lr := fromN_lt32 (decide (n < 0)) n.natAbs
  generalize fromN32 (decide (n < 0)) n.natAbs = r at *
  generalize fromN64 (decide (n < 0)) n.natAbs = s at *
  have cr : IntKind.u64.wrap (r : Int) = (r : Int) := wrap_u64_nat (by omega)
  clear hn lr hn64
  have B0 := Lib.hid (Below.refl w.heap.size w)
  go_enter Try.func11, Try.ntmps11
  go_wp2_with fail
  refine (I1.out _).mono ?_
  rintro e w' ⟨rfl, rfl⟩
  go_wp2_with fail
  refine (fmt64_any _).mono ?_
  rintro e u1 ⟨rfl, hb⟩
  have B1 := Lib.hid (below_trans' B0.out hb)
  clear hb
  go_wp2_with fail
  refine (SP.out _).mono ?_
  rintro e u2 ⟨rfl, hb⟩
  have B2 := Lib.hid (below_trans' B1.out hb)
  clear hb
  go_wp2_with fail
  refine (I2.out _).mono ?_
  rintro e w' ⟨rfl, rfl⟩
  go_wp2_with fail
  refine (fmt32_any _).mono ?_
  rintro e u3 ⟨rfl, hb⟩
  have B3 := Lib.hid (below_trans' B2.out hb)
  clear hb
  go_wp2_with fail
  refine (SQ.out _).mono ?_
  rintro e u4 ⟨rfl, hb⟩
  have B4 := Lib.hid (below_trans' B3.out hb)
  clear hb
  go_wp2_with fail
  go_ret
  exact ⟨rfl, B4.out⟩
end Go.Proofs.Ytignbdajgnnlpaa.SF
