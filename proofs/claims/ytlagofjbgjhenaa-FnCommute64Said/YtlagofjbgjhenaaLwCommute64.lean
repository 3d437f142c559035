/-
  The walk of a law.
-/
import Derived.Test.YtlagofjbgjhenaaWrap
import Derived.Test.YtlagofjbgjhenaaAlikeW
import Derived.Test.YtlagofjbgjhenaaFmtB
import Derived.Test.YtlagofjbgjhenaaFrame
import Derived.Test.YtlagofjbgjhenaaAlg
namespace Go.Proofs.Ytlagofjbgjhenaa.SF
open Go.ChangeShapes Go.WideShapes Go.ChangeAt Go.RowKit
set_option linter.unusedVariables false
set_option maxRecDepth 100000 in
set_option maxHeartbeats 4000000 in
theorem fnCommute64 (x : Nat) (y : Nat) (w : World) (hx : x < 18446744073709551616) (hy : y < 18446744073709551616) : Calls Try.prog 6 #[.int .u64 (x : Int), .int .u64 (y : Int)] w (LawPost w) := by
  have A1 := fun w => implAdd64 x y w hx hy
  have A2 := fun w => implAdd64 y x w hy hx
  have M1 := fun w => implMul64 x y w hx hy
  have M2 := fun w => implMul64 y x w hy hx
  have la := add_lt64 hx hy
  have lm := mul_lt64 x y
  rw [← add_comm64 x y] at A2
  rw [← mul_comm64 x y] at M2
  have L1 := fun w => alike64_any (add64 x y) (add64 x y) w la la
  have L2 := fun w => alike64_any (mul64 x y) (mul64 x y) w lm lm
  rw [alike_self64] at L1 L2
  have C : Hid (∀ w, Calls Try.prog 15 #[.int .u64 4607182418800017408, .int .u64 4611686018427387904] w (RetW (.int .u64 4611686018427387904) w)) := Lib.hid fun w => by
    have := implMul64 4607182418800017408 4611686018427387904 w (by omega) (by omega)
    rwa [mul_one_two64] at this
  generalize add64 x y = a at *
  generalize mul64 x y = m at *
  have A1 := Lib.hid A1
  have A2 := Lib.hid A2
  have M1 := Lib.hid M1
  have M2 := Lib.hid M2
  have L1 := Lib.hid L1
  have L2 := Lib.hid L2
  clear hx hy la lm
  have B0 := Lib.hid (Below.refl w.heap.size w)
  go_enter Try.func6, Try.ntmps6
  go_wp2_with fail
  refine (fmt64_any _).mono ?_
  rintro e u1 ⟨rfl, hb⟩
  have B1 := Lib.hid (below_trans' B0.out hb)
  clear hb
  go_wp2_with fail
  refine (A1.out _).mono ?_
  rintro e w' ⟨rfl, rfl⟩
  go_wp2_with fail
  refine (A2.out _).mono ?_
  rintro e w' ⟨rfl, rfl⟩
  go_wp2_with fail
  refine (L1.out _).mono ?_
  rintro e u2 ⟨rfl, hb⟩
  have B2 := Lib.hid (below_trans' B1.out hb)
  clear hb
  go_wp2_with fail
  refine (fmt64_any _).mono ?_
  rintro e u3 ⟨rfl, hb⟩
  have B3 := Lib.hid (below_trans' B2.out hb)
  clear hb
  go_wp2_with fail
  refine (M1.out _).mono ?_
  rintro e w' ⟨rfl, rfl⟩
  go_wp2_with fail
  refine (M2.out _).mono ?_
  rintro e w' ⟨rfl, rfl⟩
  go_wp2_with fail
  refine (L2.out _).mono ?_
  rintro e u4 ⟨rfl, hb⟩
  have B4 := Lib.hid (below_trans' B3.out hb)
  clear hb
  go_wp2_with fail
  refine (C.out _).mono ?_
  rintro e w' ⟨rfl, rfl⟩
  go_wp2_with fail
  go_ret
  exact ⟨rfl, B4.out⟩
end Go.Proofs.Ytlagofjbgjhenaa.SF
