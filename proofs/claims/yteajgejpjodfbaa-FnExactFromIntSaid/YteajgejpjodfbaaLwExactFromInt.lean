/-
  The walk of a law.
-/
import Derived.Test.YteajgejpjodfbaaSpecF
import Derived.Test.YteajgejpjodfbaaWrapI
import Derived.Test.YteajgejpjodfbaaFrame
import Derived.Test.YteajgejpjodfbaaFmtB
namespace Go.Proofs.Yteajgejpjodfbaa.SF
open Go.ChangeShapes Go.WideShapes Go.ChangeAt Go.RowKit
set_option linter.unusedVariables false
set_option maxRecDepth 100000 in
set_option maxHeartbeats 4000000 in
theorem fnExactFromInt (n : Int) (w : World) (hn : -9223372036854775808 ≤ n ∧ n ≤ 9223372036854775807) : Calls Try.prog 7 #[.int .i64 n] w (LawPost w) := by
  have SP := Lib.hid fun w => ffromI64_any n w hn
  have I1 := Lib.hid fun w => implFromInt n w hn
  have I2 := Lib.hid fun w => implFromInt64 n w hn
  generalize fromN64 (decide (n < 0)) n.natAbs = r at *
  clear hn
  have B0 := Lib.hid (Below.refl w.heap.size w)
  go_enter Try.func7, Try.ntmps7
  go_wp2_with fail
  refine (fmt64_any _).mono ?_
  rintro e u1 ⟨rfl, hb⟩
  have B1 := Lib.hid (below_trans' B0.out hb)
  clear hb
  go_wp2_with fail
  refine (SP.out _).mono ?_
  rintro e u2 ⟨rfl, hb⟩
  have B2 := Lib.hid (below_trans' B1.out hb)
  clear hb
  go_wp2_with fail
  refine (I1.out _).mono ?_
  rintro e w' ⟨rfl, rfl⟩
  go_wp2_with fail
  refine (I2.out _).mono ?_
  rintro e w' ⟨rfl, rfl⟩
  go_wp2_with fail
  go_ret
  exact ⟨rfl, B2.out⟩
end Go.Proofs.Yteajgejpjodfbaa.SF
