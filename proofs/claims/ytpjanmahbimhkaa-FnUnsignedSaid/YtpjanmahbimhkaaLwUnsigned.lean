/-
  The walk of a law.
-/
import Derived.Test.YtpjanmahbimhkaaWrapI
import Derived.Test.YtpjanmahbimhkaaFuW
import Derived.Test.YtpjanmahbimhkaaFrame
import Derived.Test.YtpjanmahbimhkaaAndN
namespace Go.Proofs.Ytpjanmahbimhkaa.SF
open Go.ChangeShapes Go.WideShapes Go.ChangeAt Go.RowKit
set_option linter.unusedVariables false
set_option maxRecDepth 100000 in
set_option maxHeartbeats 4000000 in
theorem fnUnsigned (n : Int) (w : World) (hn : -9223372036854775808 ≤ n ∧ n ≤ 9223372036854775807) : Calls Try.prog 7 #[.int .i64 n] w (LawPost w) := by
  obtain ⟨m, hm, e1⟩ := andNot_min hn
  have I1 := fun w => implFromInt64 (m : Int) w (by omega)
  have J1 := fun w => implFromInt64To32 (m : Int) w (by omega)
  have I2 := fun w => implFromUint64 m w (by omega)
  have J2 := fun w => implFromUint64To32 m w (by omega)
  rw [decide_eq_false (show ¬ ((m : Int) < 0) by omega), Int.natAbs_natCast] at I1 J1
  have c1 : IntKind.u64.wrap (m : Int) = (m : Int) := wrap_u64_nat (by omega)
  have C : Hid (∀ w, Calls Try.prog 23 #[.int .u64 1] w (RetW (.int .u64 4607182418800017408) w)) := Lib.hid fun w => by
    have := implFromUint64 1 w (by omega)
    have e : fromN64 false 1 = 4607182418800017408 := from_one64
    rwa [e] at this
  generalize fromN64 false m = r at *
  generalize fromN32 false m = s at *
  have I1 := Lib.hid I1
  have I2 := Lib.hid I2
  have J1 := Lib.hid J1
  have J2 := Lib.hid J2
  clear hn hm
  have B0 := Lib.hid (Below.refl w.heap.size w)
  go_enter Try.func7, Try.ntmps7
  go_wp2_with fail
  refine (I2.out _).mono ?_
  rintro e w' ⟨rfl, rfl⟩
  go_wp2_with fail
  refine (I1.out _).mono ?_
  rintro e w' ⟨rfl, rfl⟩
  go_wp2_with fail
  refine (J2.out _).mono ?_
  rintro e w' ⟨rfl, rfl⟩
  go_wp2_with fail
  refine (J1.out _).mono ?_
  rintro e w' ⟨rfl, rfl⟩
  go_wp2_with fail
  refine (C.out _).mono ?_
  rintro e w' ⟨rfl, rfl⟩
  go_wp2_with fail
  go_ret
  exact ⟨rfl, B0.out⟩
end Go.Proofs.Ytpjanmahbimhkaa.SF
