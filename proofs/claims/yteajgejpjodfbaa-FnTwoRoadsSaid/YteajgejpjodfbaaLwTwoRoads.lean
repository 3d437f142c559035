/-
  The walk of the law FnTwoRoads.
-/
import Derived.Test.YteajgejpjodfbaaWrap
import Derived.Test.YteajgejpjodfbaaWrap32
import Derived.Test.YteajgejpjodfbaaAlikeW
import Derived.Test.YteajgejpjodfbaaFmt
import Derived.Test.YteajgejpjodfbaaFrame
namespace Go.Proofs.Yteajgejpjodfbaa.SF
open Go.ChangeShapes Go.WideShapes Go.ChangeAt Go.RowKit
set_option linter.unusedVariables false
set_option maxRecDepth 100000 in
set_option maxHeartbeats 4000000 in
theorem fnTwoRoads (x y : Nat) (w : World) (hx : x < 4294967296) (hy : y < 4294967296) :
    Calls Try.prog 8 #[.int .u32 (x : Int), .int .u32 (y : Int)] w (LawPost w) := by
  have WX := Lib.hid fun w => implWiden x w hx
  have WY := Lib.hid fun w => implWiden y w hy
  have A32 := Lib.hid fun w => implAdd32R x y w hx hy
  have A64 := Lib.hid fun w => implAdd64 (widen x) (widen y) w (widen_lt x) (widen_lt y)
  have N1 := Lib.hid fun w => implNarrow (add64 (widen x) (widen y)) w (add_lt64 (widen_lt x) (widen_lt y))
  have L1 := Lib.hid fun w => alike32_any (narrow (add64 (widen x) (widen y))) (narrow (add64 (widen x) (widen y))) w (narrow_lt _) (narrow_lt _)
  have M32 := Lib.hid fun w => implMul32R x y w hx hy
  have M64 := Lib.hid fun w => implMul64 (widen x) (widen y) w (widen_lt x) (widen_lt y)
  have N2 := Lib.hid fun w => implNarrow (mul64 (widen x) (widen y)) w (mul_lt64 _ _)
  have L2 := Lib.hid fun w => alike32_any (narrow (mul64 (widen x) (widen y))) (narrow (mul64 (widen x) (widen y))) w (narrow_lt _) (narrow_lt _)
  have D32 := Lib.hid fun w => implDiv32R x y w hx hy
  have D64 := Lib.hid fun w => implDiv64 (widen x) (widen y) w (widen_lt x) (widen_lt y)
  have N3 := Lib.hid fun w => implNarrow (div64 (widen x) (widen y)) w (div_lt64 _ _)
  have L3 := Lib.hid fun w => alike32_any (narrow (div64 (widen x) (widen y))) (narrow (div64 (widen x) (widen y))) w (narrow_lt _) (narrow_lt _)
  have ONE : Hid (∀ w, Calls Try.prog 29 #[.int .u32 1065353216, .int .u32 1065353216] w (RetW (.int .u32 1073741824) w)) := Lib.hid fun w => by
    have := implAdd32 1065353216 1065353216 w (by omega) (by omega)
    rwa [add_one_one32] at this
  rw [alike_self32] at L1 L2 L3
  have l1 := narrow_lt (add64 (widen x) (widen y))
  have l2 := narrow_lt (mul64 (widen x) (widen y))
  have l3 := narrow_lt (div64 (widen x) (widen y))
  generalize narrow (add64 (widen x) (widen y)) = n1 at *
  generalize narrow (mul64 (widen x) (widen y)) = n2 at *
  generalize narrow (div64 (widen x) (widen y)) = n3 at *
  generalize add64 (widen x) (widen y) = a64 at *
  generalize mul64 (widen x) (widen y) = m64 at *
  generalize div64 (widen x) (widen y) = d64 at *
  generalize widen x = wx at *
  generalize widen y = wy at *
  have c1 : IntKind.u64.wrap (n1 : Int) = (n1 : Int) := wrap_u64_nat (by omega)
  have c2 : IntKind.u64.wrap (n2 : Int) = (n2 : Int) := wrap_u64_nat (by omega)
  have c3 : IntKind.u64.wrap (n3 : Int) = (n3 : Int) := wrap_u64_nat (by omega)
  clear hx hy
  go_enter Try.func8, Try.ntmps8
  go_wp2_with fail
  refine (fmt32_any _).mono ?_
  rintro e w1 ⟨rfl, hb1⟩
  have B1 := Lib.hid hb1
  clear hb1
  go_wp2_with fail
  refine (WX.out _).mono ?_
  rintro e w2 ⟨rfl, rfl⟩
  go_wp2_with fail
  refine (WY.out _).mono ?_
  rintro e w2 ⟨rfl, rfl⟩
  go_wp2_with fail
  have HS := Lib.hid (FB32.start w1)
  go_region_held3 (fun w' => FB32 w1 w') (first | assumption | exact HS.out) (first | (go_at_call 29; (first | with_reducible refine (ONE.out _).mono ?_ | with_reducible refine (A32.out _).mono ?_); rintro e w2 ⟨rfl, rfl⟩) | (go_at_call 31; refine (A64.out _).mono ?_; rintro e w2 ⟨rfl, rfl⟩) | (go_at_call 32; refine (M32.out _).mono ?_; rintro e w2 ⟨rfl, rfl⟩) | (go_at_call 33; refine (M64.out _).mono ?_; rintro e w2 ⟨rfl, rfl⟩) | (go_at_call 34; refine (D32.out _).mono ?_; rintro e w2 ⟨rfl, rfl⟩) | (go_at_call 35; refine (D64.out _).mono ?_; rintro e w2 ⟨rfl, rfl⟩) | (go_at_call 30; (first | with_reducible refine (N1.out _).mono ?_ | with_reducible refine (N2.out _).mono ?_ | with_reducible refine (N3.out _).mono ?_); rintro e w2 ⟨rfl, rfl⟩) | (go_at_call 28; (first | with_reducible refine (L1.out _).mono ?_ | with_reducible refine (L2.out _).mono ?_ | with_reducible refine (L3.out _).mono ?_); rintro e w2 ⟨rfl, hb⟩; have hs2 := FB32.step (w := w1) (by assumption) hb; clear hb))
  all_goals go_wp2_with fail
  all_goals
    go_ret
    exact ⟨rfl, below_trans' B1.out (FB32.below (by assumption))⟩
end Go.Proofs.Yteajgejpjodfbaa.SF
