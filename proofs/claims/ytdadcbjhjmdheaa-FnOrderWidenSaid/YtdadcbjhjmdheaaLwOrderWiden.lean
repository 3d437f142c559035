/-
  The walk of a law.
-/
import Derived.Test.YtdadcbjhjmdheaaWrap
import Derived.Test.YtdadcbjhjmdheaaFrame
import Derived.Test.YtdadcbjhjmdheaaOrdK
import Derived.Test.YtdadcbjhjmdheaaDR3
namespace Go.Proofs.Ytdadcbjhjmdheaa.SF
open Go.ChangeShapes Go.WideShapes Go.ChangeAt Go.RowKit
set_option linter.unusedVariables false
set_option maxRecDepth 100000 in
set_option maxHeartbeats 4000000 in
theorem fnOrderWiden (x : Nat) (y : Nat) (w : World) (hx : x < 4294967296) (hy : y < 4294967296) : Calls Try.prog 14 #[.int .u32 (x : Int), .int .u32 (y : Int)] w (LawPost w) := by
  have WX := fun w => implWiden x w hx
  have WY := fun w => implWiden y w hy
  have EQ := fun w => implEq32 x y w hx hy
  have GT := fun w => implGt32 x y w hx hy
  have GE := fun w => implGe32 x y w hx hy
  have EQ2 := fun w => implEq64 (widen x) (widen y) w (widen_lt x) (widen_lt y)
  have GT2 := fun w => implGt64 (widen x) (widen y) w (widen_lt x) (widen_lt y)
  have GE2 := fun w => implGe64 (widen x) (widen y) w (widen_lt x) (widen_lt y)
  have C : Hid (∀ w, Calls Try.prog 23 #[.int .u32 0, .int .u32 0] w (RetW (.bool true) w)) := Lib.hid fun w => by
    have := implGe32 0 0 w (by omega) (by omega)
    have h : geB (widen 0) (widen 0) = true := by
      rw [geB_key (widen_lt 0) (widen_lt 0) (by rw [widen_isNaN]; decide) (by rw [widen_isNaN]; decide)]; exact decide_eq_true (Int.le_refl _)
    rwa [h] at this
  generalize eqB (widen x) (widen y) = p at *
  generalize gtB (widen x) (widen y) = q at *
  generalize geB (widen x) (widen y) = r at *
  generalize widen x = wx at *
  generalize widen y = wy at *
  have WX := Lib.hid WX
  have WY := Lib.hid WY
  have EQ := Lib.hid EQ
  have EQ2 := Lib.hid EQ2
  have GT := Lib.hid GT
  have GT2 := Lib.hid GT2
  have GE := Lib.hid GE
  have GE2 := Lib.hid GE2
  clear hx hy
  cases p <;> cases q <;> cases r
  all_goals
    have B0 := Lib.hid (Below.refl w.heap.size w)
    go_enter Try.func14, Try.ntmps14
    go_wp2_with fail
    refine (WX.out _).mono ?_
    rintro e w' ⟨rfl, rfl⟩
    go_wp2_with fail
    refine (WY.out _).mono ?_
    rintro e w' ⟨rfl, rfl⟩
    go_wp2_with fail
    refine (EQ.out _).mono ?_
    rintro e w' ⟨rfl, rfl⟩
    go_wp2_with fail
    refine (EQ2.out _).mono ?_
    rintro e w' ⟨rfl, rfl⟩
    go_wp2_with fail
    refine (GT.out _).mono ?_
    rintro e w' ⟨rfl, rfl⟩
    go_wp2_with fail
    refine (GT2.out _).mono ?_
    rintro e w' ⟨rfl, rfl⟩
    go_wp2_with fail
    refine (GE.out _).mono ?_
    rintro e w' ⟨rfl, rfl⟩
    go_wp2_with fail
    refine (GE2.out _).mono ?_
    rintro e w' ⟨rfl, rfl⟩
    go_wp2_with fail
    refine (C.out _).mono ?_
    rintro e w' ⟨rfl, rfl⟩
    go_wp2_with fail
    go_ret
    exact ⟨rfl, B0.out⟩
end Go.Proofs.Ytdadcbjhjmdheaa.SF
