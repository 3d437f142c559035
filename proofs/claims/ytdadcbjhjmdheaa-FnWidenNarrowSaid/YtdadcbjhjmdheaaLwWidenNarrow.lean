/-
  The walk of a law.
-/
import Derived.Test.YtdadcbjhjmdheaaWrap
import Derived.Test.YtdadcbjhjmdheaaAlikeW
import Derived.Test.YtdadcbjhjmdheaaFmtB
import Derived.Test.YtdadcbjhjmdheaaFrame
import Derived.Test.YtdadcbjhjmdheaaAlgC
namespace Go.Proofs.Ytdadcbjhjmdheaa.SF
open Go.ChangeShapes Go.WideShapes Go.ChangeAt Go.RowKit
set_option linter.unusedVariables false
set_option maxRecDepth 100000 in
set_option maxHeartbeats 4000000 in
theorem fnWidenNarrow (x : Nat) (w : World) (hx : x < 4294967296) : Calls Try.prog 13 #[.int .u32 (x : Int)] w (LawPost w) := by
  have NX := fun w => fnan32_any x w hx
  have WX := fun w => implWiden x w hx
  have NW := fun w => implNarrow (widen x) w (widen_lt x)
  have lr := narrow_lt (widen x)
  have cx : IntKind.u64.wrap (x : Int) = (x : Int) := wrap_u64_nat (by omega)
  have NA := fun w => fnan32_any (narrow (widen x)) w lr
  cases nx : isNaN32 x
  · rw [nx] at NX
    rw [narrow_widen hx nx] at NW
    generalize widen x = r at *
    have NX := Lib.hid NX
    have WX := Lib.hid WX
    have NW := Lib.hid NW
    clear hx nx lr NA
    have B0 := Lib.hid (Below.refl w.heap.size w)
    go_enter Try.func13, Try.ntmps13
    go_wp2_with fail
    refine (fmt32_any _).mono ?_
    rintro e u1 ⟨rfl, hb⟩
    have B1 := Lib.hid (below_trans' B0.out hb)
    clear hb
    go_wp2_with fail
    refine (NX.out _).mono ?_
    rintro e u2 ⟨rfl, hb⟩
    have B2 := Lib.hid (below_trans' B1.out hb)
    clear hb
    go_wp2_with fail
    refine (WX.out _).mono ?_
    rintro e w' ⟨rfl, rfl⟩
    go_wp2_with fail
    refine (NW.out _).mono ?_
    rintro e w' ⟨rfl, rfl⟩
    go_wp2_with fail
    go_ret
    exact ⟨rfl, B2.out⟩
  · rw [nx] at NX
    rw [narrow_widen_nan nx] at NA
    generalize narrow (widen x) = m at *
    generalize widen x = r at *
    have cm : IntKind.u64.wrap (m : Int) = (m : Int) := wrap_u64_nat (by omega)
    have NX := Lib.hid NX
    have WX := Lib.hid WX
    have NW := Lib.hid NW
    have NA := Lib.hid NA
    clear hx nx lr
    have B0 := Lib.hid (Below.refl w.heap.size w)
    go_enter Try.func13, Try.ntmps13
    go_wp2_with fail
    refine (fmt32_any _).mono ?_
    rintro e u1 ⟨rfl, hb⟩
    have B1 := Lib.hid (below_trans' B0.out hb)
    clear hb
    go_wp2_with fail
    refine (NX.out _).mono ?_
    rintro e u2 ⟨rfl, hb⟩
    have B2 := Lib.hid (below_trans' B1.out hb)
    clear hb
    go_wp2_with fail
    refine (fmt32_any _).mono ?_
    rintro e u3 ⟨rfl, hb⟩
    have B3 := Lib.hid (below_trans' B2.out hb)
    clear hb
    go_wp2_with fail
    refine (WX.out _).mono ?_
    rintro e w' ⟨rfl, rfl⟩
    go_wp2_with fail
    refine (NW.out _).mono ?_
    rintro e w' ⟨rfl, rfl⟩
    go_wp2_with fail
    refine (NA.out _).mono ?_
    rintro e u4 ⟨rfl, hb⟩
    have B4 := Lib.hid (below_trans' B3.out hb)
    clear hb
    go_wp2_with fail
    go_ret
    exact ⟨rfl, B4.out⟩
end Go.Proofs.Ytdadcbjhjmdheaa.SF
