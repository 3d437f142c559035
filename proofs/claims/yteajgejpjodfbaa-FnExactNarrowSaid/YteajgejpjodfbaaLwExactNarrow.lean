/-
  The walk of a law.
-/
import Derived.Test.YteajgejpjodfbaaWrap
import Derived.Test.YteajgejpjodfbaaAlikeW
import Derived.Test.YteajgejpjodfbaaFmtB
import Derived.Test.YteajgejpjodfbaaFrame
import Derived.Test.YteajgejpjodfbaaSpecC
import Derived.Test.YteajgejpjodfbaaDR2
namespace Go.Proofs.Yteajgejpjodfbaa.SF
open Go.ChangeShapes Go.WideShapes Go.ChangeAt Go.RowKit
set_option linter.unusedVariables false
set_option maxRecDepth 100000 in
set_option maxHeartbeats 4000000 in
theorem fnExactNarrow (x : Nat) (w : World) (hx : x < 18446744073709551616) : Calls Try.prog 14 #[.int .u64 (x : Int)] w (LawPost w) := by
  have CV := fun w => fconvA_any x w hx
  have IM := fun w => implNarrow x w hx
  have lr := narrow_lt x
  cases nx : isNaN64 x
  · rw [nx] at CV
    simp only [Bool.false_eq_true, if_false, Bool.not_false] at CV
    generalize narrow x = r at *
    have cr : IntKind.u64.wrap (r : Int) = (r : Int) := wrap_u64_nat (by omega)
    have CV := Lib.hid CV
    have IM := Lib.hid IM
    clear hx nx lr
    have B0 := Lib.hid (Below.refl w.heap.size w)
    go_enter Try.func14, Try.ntmps14
    go_wp2_with fail
    refine (fmt64_any _).mono ?_
    rintro e u1 ⟨rfl, hb⟩
    have B1 := Lib.hid (below_trans' B0.out hb)
    clear hb
    go_wp2_with fail
    refine (fmt32_any _).mono ?_
    rintro e u2 ⟨rfl, hb⟩
    have B2 := Lib.hid (below_trans' B1.out hb)
    clear hb
    go_wp2_with fail
    refine (CV.out _).mono ?_
    rintro e u3 ⟨rfl, hb⟩
    have B3 := Lib.hid (below_trans' B2.out hb)
    clear hb
    go_wp2_with fail
    refine (IM.out _).mono ?_
    rintro e w' ⟨rfl, rfl⟩
    go_wp2_with fail
    go_ret
    exact ⟨rfl, B3.out⟩
  · have hq : isNaN32 (narrow x) = true := by rw [narrow_nan nx]; decide
    have NA := fun w => fnan32_any (narrow x) w lr
    rw [hq] at NA
    rw [nx] at CV
    simp only [if_true, Bool.not_true] at CV
    generalize narrow x = r at *
    have cr : IntKind.u64.wrap (r : Int) = (r : Int) := wrap_u64_nat (by omega)
    have CV := Lib.hid CV
    have IM := Lib.hid IM
    have NA := Lib.hid NA
    clear hx nx lr hq
    have B0 := Lib.hid (Below.refl w.heap.size w)
    go_enter Try.func14, Try.ntmps14
    go_wp2_with fail
    refine (fmt64_any _).mono ?_
    rintro e u1 ⟨rfl, hb⟩
    have B1 := Lib.hid (below_trans' B0.out hb)
    clear hb
    go_wp2_with fail
    refine (fmt32_any _).mono ?_
    rintro e u2 ⟨rfl, hb⟩
    have B2 := Lib.hid (below_trans' B1.out hb)
    clear hb
    go_wp2_with fail
    refine (CV.out _).mono ?_
    rintro e u3 ⟨rfl, hb⟩
    have B3 := Lib.hid (below_trans' B2.out hb)
    clear hb
    go_wp2_with fail
    refine (IM.out _).mono ?_
    rintro e w' ⟨rfl, rfl⟩
    go_wp2_with fail
    refine (fmt32_any _).mono ?_
    rintro e u4 ⟨rfl, hb⟩
    have B4 := Lib.hid (below_trans' B3.out hb)
    clear hb
    go_wp2_with fail
    refine (NA.out _).mono ?_
    rintro e u5 ⟨rfl, hb⟩
    have B5 := Lib.hid (below_trans' B4.out hb)
    clear hb
    go_wp2_with fail
    go_ret
    exact ⟨rfl, B5.out⟩
end Go.Proofs.Yteajgejpjodfbaa.SF
