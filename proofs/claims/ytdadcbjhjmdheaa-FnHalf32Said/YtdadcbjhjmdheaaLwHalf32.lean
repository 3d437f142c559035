/-
  The walk of a law.
-/
import Derived.Test.YtdadcbjhjmdheaaWrap
import Derived.Test.YtdadcbjhjmdheaaAlikeW
import Derived.Test.YtdadcbjhjmdheaaFmtB
import Derived.Test.YtdadcbjhjmdheaaFrame
import Derived.Test.YtdadcbjhjmdheaaWrap32
import Derived.Test.YtdadcbjhjmdheaaAlg
namespace Go.Proofs.Ytdadcbjhjmdheaa.SF
open Go.ChangeShapes Go.WideShapes Go.ChangeAt Go.RowKit
set_option linter.unusedVariables false
set_option maxRecDepth 100000 in
set_option maxHeartbeats 4000000 in
theorem fnHalf32 (x : Nat) (w : World) (hx : x < 4294967296) : Calls Try.prog 5 #[.int .u32 (x : Int)] w (LawPost w) := by
  have M1 := fun w => implMul32 x 1056964608 w hx (by omega)
  have D1 := fun w => implDiv32 x 1073741824 w hx (by omega)
  have la := div_lt32 x 1073741824
  rw [half32 hx] at M1
  have L1 := fun w => alike32_any (div32 x 1073741824) (div32 x 1073741824) w la la
  rw [alike_self32] at L1
  have C : Hid (∀ w, Calls Try.prog 18 #[.int .u32 1065353216, .int .u32 1056964608] w (RetW (.int .u32 1056964608) w)) := Lib.hid fun w => by
    have := implMul32 1065353216 1056964608 w (by omega) (by omega)
    rwa [mul_one_half32] at this
  generalize div32 x 1073741824 = a at *
  have c_a : IntKind.u64.wrap (a : Int) = (a : Int) := wrap_u64_nat (by omega)
  have M1 := Lib.hid M1
  have D1 := Lib.hid D1
  have L1 := Lib.hid L1
  clear hx la
  have B0 := Lib.hid (Below.refl w.heap.size w)
  go_enter Try.func5, Try.ntmps5
  go_wp2_with fail
  refine (fmt32_any _).mono ?_
  rintro e u1 ⟨rfl, hb⟩
  have B1 := Lib.hid (below_trans' B0.out hb)
  clear hb
  go_wp2_with fail
  refine (M1.out _).mono ?_
  rintro e w' ⟨rfl, rfl⟩
  go_wp2_with fail
  refine (D1.out _).mono ?_
  rintro e w' ⟨rfl, rfl⟩
  go_wp2_with fail
  refine (L1.out _).mono ?_
  rintro e u2 ⟨rfl, hb⟩
  have B2 := Lib.hid (below_trans' B1.out hb)
  clear hb
  go_wp2_with fail
  refine (C.out _).mono ?_
  rintro e w' ⟨rfl, rfl⟩
  go_wp2_with fail
  go_ret
  exact ⟨rfl, B2.out⟩
end Go.Proofs.Ytdadcbjhjmdheaa.SF
