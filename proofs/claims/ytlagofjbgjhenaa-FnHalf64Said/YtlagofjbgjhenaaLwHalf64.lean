/-
  The walk of a law.
-/
import Derived.Test.YtlagofjbgjhenaaWrap
import Derived.Test.YtlagofjbgjhenaaAlikeW
import Derived.Test.YtlagofjbgjhenaaFmtB
import Derived.Test.YtlagofjbgjhenaaFrame
import Derived.Test.YtlagofjbgjhenaaAlg
namespace Go.Proofs.Ytlagofjbgjhenaa.SF
open Go.ChangeShapes Go.WideShapes Go.ChangeAt Go.RowKit
set_option linter.unusedVariables false
set_option maxRecDepth 100000 in
set_option maxHeartbeats 4000000 in
theorem fnHalf64 (x : Nat) (w : World) (hx : x < 18446744073709551616) : Calls Try.prog 8 #[.int .u64 (x : Int)] w (LawPost w) := by
  have M1 := fun w => implMul64 x 4602678819172646912 w hx (by omega)
  have D1 := fun w => implDiv64 x 4611686018427387904 w hx (by omega)
  have la := div_lt64 x 4611686018427387904
  rw [half64 hx] at M1
  have L1 := fun w => alike64_any (div64 x 4611686018427387904) (div64 x 4611686018427387904) w la la
  rw [alike_self64] at L1
  have C : Hid (∀ w, Calls Try.prog 15 #[.int .u64 4607182418800017408, .int .u64 4602678819172646912] w (RetW (.int .u64 4602678819172646912) w)) := Lib.hid fun w => by
    have := implMul64 4607182418800017408 4602678819172646912 w (by omega) (by omega)
    rwa [mul_one_half64] at this
  generalize div64 x 4611686018427387904 = a at *
  have M1 := Lib.hid M1
  have D1 := Lib.hid D1
  have L1 := Lib.hid L1
  clear hx la
  have B0 := Lib.hid (Below.refl w.heap.size w)
  go_enter Try.func8, Try.ntmps8
  go_wp2_with fail
  refine (fmt64_any _).mono ?_
  rintro e u1 ⟨rfl, hb⟩
  have B1 := Lib.hid (below_trans' B0.out hb)
  clear hb
  go_wp2_with fail
  refine (M1.out _).mono ?_
  rintro e w' ⟨rfl, rfl⟩
  go_wp2_with fail
  refine (D1.out _).mono ?_
  rintro e w' ⟨rfl, rfl⟩
  go_wp2_with fail
  refine (L1.out _).mono ?_
  rintro e u2 ⟨rfl, hb⟩
  have B2 := Lib.hid (below_trans' B1.out hb)
  clear hb
  go_wp2_with fail
  refine (C.out _).mono ?_
  rintro e w' ⟨rfl, rfl⟩
  go_wp2_with fail
  go_ret
  exact ⟨rfl, B2.out⟩
end Go.Proofs.Ytlagofjbgjhenaa.SF
