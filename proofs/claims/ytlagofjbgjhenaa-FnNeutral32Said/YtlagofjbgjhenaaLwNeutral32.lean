/-
  The walk of a law.
-/
import Derived.Test.YtlagofjbgjhenaaWrap
import Derived.Test.YtlagofjbgjhenaaAlikeW
import Derived.Test.YtlagofjbgjhenaaFmtB
import Derived.Test.YtlagofjbgjhenaaFrame
import Derived.Test.YtlagofjbgjhenaaWrap32
import Derived.Test.YtlagofjbgjhenaaAlg
namespace Go.Proofs.Ytlagofjbgjhenaa.SF
open Go.ChangeShapes Go.WideShapes Go.ChangeAt Go.RowKit
set_option linter.unusedVariables false
set_option maxRecDepth 100000 in
set_option maxHeartbeats 4000000 in
theorem fnNeutral32 (x : Nat) (w : World) (hx : x < 4294967296) : Calls Try.prog 14 #[.int .u32 (x : Int)] w (LawPost w) := by
  have NX := fun w => fnan32_any x w hx
  have A := fun w => implAdd32 x 2147483648 w hx (by omega)
  have M := fun w => implMul32 x 1065353216 w hx (by omega)
  have Dv := fun w => implDiv32 x 1065353216 w hx (by omega)
  have cx : IntKind.u64.wrap (x : Int) = (x : Int) := wrap_u64_nat (by omega)
  cases hn : isNaN32 x
  · rw [hn] at NX
    rw [add_nz32 hx hn] at A
    rw [mul_one32 hx hn] at M
    rw [div_one32 hx hn] at Dv
    have NX := Lib.hid NX
    have A := Lib.hid A
    have M := Lib.hid M
    have Dv := Lib.hid Dv
    clear hx hn
    have B0 := Lib.hid (Below.refl w.heap.size w)
    go_enter Try.func14, Try.ntmps14
    go_wp2_with fail
    refine (fmt32_any _).mono ?_
    rintro e u1 ⟨rfl, hb⟩
    have B1 := Lib.hid (below_trans' B0.out hb)
    clear hb
    go_wp2_with fail
    refine (NX.out _).mono ?_
    rintro e u2 ⟨rfl, hb⟩
    have B2 := Lib.hid (below_trans' B1.out hb)
    clear hb
    go_wp2_with fail
    refine (A.out _).mono ?_
    rintro e w' ⟨rfl, rfl⟩
    go_wp2_with fail
    refine (M.out _).mono ?_
    rintro e w' ⟨rfl, rfl⟩
    go_wp2_with fail
    refine (Dv.out _).mono ?_
    rintro e w' ⟨rfl, rfl⟩
    go_wp2_with fail
    go_ret
    exact ⟨rfl, B2.out⟩
  · rw [hn] at NX
    have lm := mul_lt32 x 1065353216
    have NM := fun w => fnan32_any (mul32 x 1065353216) w lm
    have hq : isNaN32 (mul32 x 1065353216) = true := by rw [mul_nl32 hn]; exact nq_nan32
    rw [hq] at NM
    generalize mul32 x 1065353216 = m at *
    have cm : IntKind.u64.wrap (m : Int) = (m : Int) := wrap_u64_nat (by omega)
    have NX := Lib.hid NX
    have NM := Lib.hid NM
    have M := Lib.hid M
    clear hx hn A Dv lm hq
    have B0 := Lib.hid (Below.refl w.heap.size w)
    go_enter Try.func14, Try.ntmps14
    go_wp2_with fail
    refine (fmt32_any _).mono ?_
    rintro e u1 ⟨rfl, hb⟩
    have B1 := Lib.hid (below_trans' B0.out hb)
    clear hb
    go_wp2_with fail
    refine (NX.out _).mono ?_
    rintro e u2 ⟨rfl, hb⟩
    have B2 := Lib.hid (below_trans' B1.out hb)
    clear hb
    go_wp2_with fail
    refine (fmt32_any _).mono ?_
    rintro e u3 ⟨rfl, hb⟩
    have B3 := Lib.hid (below_trans' B2.out hb)
    clear hb
    go_wp2_with fail
    refine (M.out _).mono ?_
    rintro e w' ⟨rfl, rfl⟩
    go_wp2_with fail
    refine (NM.out _).mono ?_
    rintro e u4 ⟨rfl, hb⟩
    have B4 := Lib.hid (below_trans' B3.out hb)
    clear hb
    go_wp2_with fail
    go_ret
    exact ⟨rfl, B4.out⟩
end Go.Proofs.Ytlagofjbgjhenaa.SF
