/-
  The walk of a law.
-/
import Derived.Test.YtdadcbjhjmdheaaWrap
import Derived.Test.YtdadcbjhjmdheaaAlikeW
import Derived.Test.YtdadcbjhjmdheaaFmtB
import Derived.Test.YtdadcbjhjmdheaaFrame
import Derived.Test.YtdadcbjhjmdheaaWrap32
import Derived.Test.YtdadcbjhjmdheaaAlg
namespace Go.Proofs.Ytdadcbjhjmdheaa.SF
open Go.ChangeShapes Go.WideShapes Go.ChangeAt Go.RowKit
set_option linter.unusedVariables false
set_option maxRecDepth 100000 in
set_option maxHeartbeats 4000000 in
theorem fnCommute32 (x : Nat) (y : Nat) (w : World) (hx : x < 4294967296) (hy : y < 4294967296) : Calls Try.prog 3 #[.int .u32 (x : Int), .int .u32 (y : Int)] w (LawPost w) := by
  have A1 := fun w => implAdd32 x y w hx hy
  have A2 := fun w => implAdd32 y x w hy hx
  have M1 := fun w => implMul32 x y w hx hy
  have M2 := fun w => implMul32 y x w hy hx
  have la := add_lt32 hx hy
  have lm := mul_lt32 x y
  rw [← add_comm32 x y] at A2
  rw [← mul_comm32 x y] at M2
  have L1 := fun w => alike32_any (add32 x y) (add32 x y) w la la
  have L2 := fun w => alike32_any (mul32 x y) (mul32 x y) w lm lm
  rw [alike_self32] at L1 L2
  have C : Hid (∀ w, Calls Try.prog 18 #[.int .u32 1065353216, .int .u32 1073741824] w (RetW (.int .u32 1073741824) w)) := Lib.hid fun w => by
    have := implMul32 1065353216 1073741824 w (by omega) (by omega)
    rwa [mul_one_two32] at this
  generalize add32 x y = a at *
  generalize mul32 x y = m at *
  have c_a : IntKind.u64.wrap (a : Int) = (a : Int) := wrap_u64_nat (by omega)
  have c_m : IntKind.u64.wrap (m : Int) = (m : Int) := wrap_u64_nat (by omega)
  have A1 := Lib.hid A1
  have A2 := Lib.hid A2
  have M1 := Lib.hid M1
  have M2 := Lib.hid M2
  have L1 := Lib.hid L1
  have L2 := Lib.hid L2
  clear hx hy la lm
  have B0 := Lib.hid (Below.refl w.heap.size w)
  go_enter Try.func3, Try.ntmps3
  go_wp2_with fail
  refine (fmt32_any _).mono ?_
  rintro e u1 ⟨rfl, hb⟩
  have B1 := Lib.hid (below_trans' B0.out hb)
  clear hb
  go_wp2_with fail
  refine (A1.out _).mono ?_
  rintro e w' ⟨rfl, rfl⟩
  go_wp2_with fail
  refine (A2.out _).mono ?_
  rintro e w' ⟨rfl, rfl⟩
  go_wp2_with fail
  refine (L1.out _).mono ?_
  rintro e u2 ⟨rfl, hb⟩
  have B2 := Lib.hid (below_trans' B1.out hb)
  clear hb
  go_wp2_with fail
  refine (fmt32_any _).mono ?_
  rintro e u3 ⟨rfl, hb⟩
  have B3 := Lib.hid (below_trans' B2.out hb)
  clear hb
  go_wp2_with fail
  refine (M1.out _).mono ?_
  rintro e w' ⟨rfl, rfl⟩
  go_wp2_with fail
  refine (M2.out _).mono ?_
  rintro e w' ⟨rfl, rfl⟩
  go_wp2_with fail
  refine (L2.out _).mono ?_
  rintro e u4 ⟨rfl, hb⟩
  have B4 := Lib.hid (below_trans' B3.out hb)
  clear hb
  go_wp2_with fail
  refine (C.out _).mono ?_
  rintro e w' ⟨rfl, rfl⟩
  go_wp2_with fail
  go_ret
  exact ⟨rfl, B4.out⟩
end Go.Proofs.Ytdadcbjhjmdheaa.SF
