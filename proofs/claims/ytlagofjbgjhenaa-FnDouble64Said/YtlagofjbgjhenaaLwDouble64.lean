/-
  The walk of a law.
-/
import Derived.Test.YtlagofjbgjhenaaWrap
import Derived.Test.YtlagofjbgjhenaaAlikeW
import Derived.Test.YtlagofjbgjhenaaFmtB
import Derived.Test.YtlagofjbgjhenaaFrame
import Derived.Test.YtlagofjbgjhenaaAlg
namespace Go.Proofs.Ytlagofjbgjhenaa.SF
open Go.ChangeShapes Go.WideShapes Go.ChangeAt Go.RowKit
set_option linter.unusedVariables false
set_option maxRecDepth 100000 in
set_option maxHeartbeats 4000000 in
theorem fnDouble64 (x : Nat) (w : World) (hx : x < 18446744073709551616) : Calls Try.prog 7 #[.int .u64 (x : Int)] w (LawPost w) := by
  have A1 := fun w => implAdd64 x x w hx hx
  have M1 := fun w => implMul64 x 4611686018427387904 w hx (by omega)
  have la := add_lt64 hx hx
  rw [← double64 hx] at M1
  have L1 := fun w => alike64_any (add64 x x) (add64 x x) w la la
  rw [alike_self64] at L1
  have C : Hid (∀ w, Calls Try.prog 19 #[.int .u64 4607182418800017408, .int .u64 4607182418800017408] w (RetW (.int .u64 4611686018427387904) w)) := Lib.hid fun w => by
    have := implAdd64 4607182418800017408 4607182418800017408 w (by omega) (by omega)
    rwa [add_one_one64] at this
  generalize add64 x x = a at *
  have A1 := Lib.hid A1
  have M1 := Lib.hid M1
  have L1 := Lib.hid L1
  clear hx la
  have B0 := Lib.hid (Below.refl w.heap.size w)
  go_enter Try.func7, Try.ntmps7
  go_wp2_with fail
  refine (fmt64_any _).mono ?_
  rintro e u1 ⟨rfl, hb⟩
  have B1 := Lib.hid (below_trans' B0.out hb)
  clear hb
  go_wp2_with fail
  refine (A1.out _).mono ?_
  rintro e w' ⟨rfl, rfl⟩
  go_wp2_with fail
  refine (M1.out _).mono ?_
  rintro e w' ⟨rfl, rfl⟩
  go_wp2_with fail
  refine (L1.out _).mono ?_
  rintro e u2 ⟨rfl, hb⟩
  have B2 := Lib.hid (below_trans' B1.out hb)
  clear hb
  go_wp2_with fail
  refine (C.out _).mono ?_
  rintro e w' ⟨rfl, rfl⟩
  go_wp2_with fail
  go_ret
  exact ⟨rfl, B2.out⟩
end Go.Proofs.Ytlagofjbgjhenaa.SF
