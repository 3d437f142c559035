/-
  The walk of a law.
-/
import Derived.Test.YtpjanmahbimhkaaWrapI
import Derived.Test.YtpjanmahbimhkaaToW2
import Derived.Test.YtpjanmahbimhkaaFrame
namespace Go.Proofs.Ytpjanmahbimhkaa.SF
open Go.ChangeShapes Go.WideShapes Go.ChangeAt Go.RowKit
set_option linter.unusedVariables false
set_option maxRecDepth 100000 in
set_option maxHeartbeats 4000000 in
theorem fnInt32Back (n : Int) (w : World) (hn : -2147483648 ≤ n ∧ n ≤ 2147483647) : Calls Try.prog 4 #[.int .i32 n] w (LawPost w) := by
  have I1 := fun w => implFromInt32 n w hn
  have I2 := fun w => implToInt64 (fromS64 n) w (fromS_lt64 n)
  have I3 := fun w => implToInt32 (fromS64 n) w (fromS_lt64 n)
  rw [tiV_from (by omega)] at I2 I3
  have cw : IntKind.i32.wrap n = n := IntWalk.i32_in _ hn
  have cn : IntKind.i64.wrap n = n := IntWalk.i64_in _ (by omega)
  rw [cw] at I3
  have e : fromN64 (decide (n < 0)) n.natAbs = fromS64 n := rfl
  rw [e] at I1
  generalize fromS64 n = r at *
  have I1 := Lib.hid I1
  have I2 := Lib.hid I2
  have I3 := Lib.hid I3
  clear hn e
  have B0 := Lib.hid (Below.refl w.heap.size w)
  go_enter Try.func4, Try.ntmps4
  go_wp2_with fail
  refine (I1.out _).mono ?_
  rintro e w' ⟨rfl, rfl⟩
  go_wp2_with fail
  refine (I3.out _).mono ?_
  rintro e w' ⟨rfl, rfl⟩
  go_wp2_with fail
  refine (I1.out _).mono ?_
  rintro e w' ⟨rfl, rfl⟩
  go_wp2_with fail
  refine (I2.out _).mono ?_
  rintro e w' ⟨rfl, rfl⟩
  go_wp2_with fail
  go_ret
  exact ⟨rfl, B0.out⟩
end Go.Proofs.Ytpjanmahbimhkaa.SF
