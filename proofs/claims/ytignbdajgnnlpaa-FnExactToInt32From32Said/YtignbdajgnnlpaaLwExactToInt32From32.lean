/-
  The walk of a law.
-/
import Derived.Test.YtignbdajgnnlpaaWrap
import Derived.Test.YtignbdajgnnlpaaAlikeW
import Derived.Test.YtignbdajgnnlpaaFmtB
import Derived.Test.YtignbdajgnnlpaaFrame
import Derived.Test.YtignbdajgnnlpaaSpecW
import Derived.Test.YtignbdajgnnlpaaToW2
import Derived.Test.YtignbdajgnnlpaaToLP
namespace Go.Proofs.Ytignbdajgnnlpaa.SF
open Go.ChangeShapes Go.WideShapes Go.ChangeAt Go.RowKit
set_option linter.unusedVariables false
set_option maxRecDepth 100000 in
set_option maxHeartbeats 4000000 in
theorem fnExactToInt32From32 (x : Nat) (w : World) (hx : x < 4294967296) : Calls Try.prog 6 #[.int .u32 (x : Int)] w (LawPost w) := by
  have WH := fun w => fwhole32_any x w hx
  have SX := fun w => fneg32_any x w hx
  have IM := fun w => implToInt32From32 x w hx
  have cx : IntKind.u64.wrap (x : Int) = (x : Int) := wrap_u64_nat (by omega)
  have hti := fun (h : whB32 x = true) (h2 : wh32 x < 9223372036854775808) => tiV_wh32 h h2
  cases hB : whB32 x
  · rw [hB] at WH
    simp only [Bool.false_eq_true, if_false] at WH
    have WH := Lib.hid WH
    clear hx hB hti IM SX
    have B0 := Lib.hid (Below.refl w.heap.size w)
    go_enter Try.func6, Try.ntmps6
    go_wp2_with fail
    refine (fmt32_any _).mono ?_
    rintro e u1 ⟨rfl, hb⟩
    have B1 := Lib.hid (below_trans' B0.out hb)
    clear hb
    have HS0 := Lib.hid (FB32.start0 u1)
    go_wp2_with fail
    refine (WH.out _).mono ?_
    rintro e v1 ⟨rfl, hb⟩
    have hs := FB32.step HS0.out hb
    have HS1 := Lib.hid hs
    clear hb
    obtain ⟨c0, c1, c2, c3, c4, c5, c6⟩ := hs
    clear c5 c6
    go_wp2_with fail
    go_ret
    exact ⟨rfl, below_trans' B1.out (FB32.below HS1.out)⟩
  · rw [hB] at WH
    simp only [if_true] at WH
    have hti := hti hB
    generalize wh32 x = Z at *
    by_cases hZ : Z < 2147483648
    · have d1 : decide (2147483648 ≤ (Z : Int)) = false := decide_eq_false (by omega)
      have ht := hti (by omega)
      rw [ht] at IM
      have c1 : IntKind.i64.wrap (Z : Int) = (Z : Int) := IntWalk.i64_in _ (by omega)
      have c2 : IntKind.i64.wrap (-(Z : Int)) = -(Z : Int) := IntWalk.i64_in _ (by omega)
      have c3 : IntKind.i32.wrap (Z : Int) = (Z : Int) := IntWalk.i32_in _ (by omega)
      have c4 : IntKind.i32.wrap (-(Z : Int)) = -(Z : Int) := IntWalk.i32_in _ (by omega)
      generalize neg32 x = ng at *
      clear hx hB hti ht
      cases ng
      all_goals
        simp only [sk, Bool.false_eq_true, if_false, if_true] at IM
        try rw [c3] at IM
        try rw [c4] at IM
        have WH := Lib.hid WH
        have SX := Lib.hid SX
        have IM := Lib.hid IM
        have B0 := Lib.hid (Below.refl w.heap.size w)
        go_enter Try.func6, Try.ntmps6
        go_wp2_with fail
        refine (fmt32_any _).mono ?_
        rintro e u1 ⟨rfl, hb⟩
        have B1 := Lib.hid (below_trans' B0.out hb)
        clear hb
        have HS0 := Lib.hid (FB32.start0 u1)
        go_wp2_with fail
        refine (WH.out _).mono ?_
        rintro e v1 ⟨rfl, hb⟩
        have hs := FB32.step HS0.out hb
        have HS1 := Lib.hid hs
        clear hb
        obtain ⟨c0, c1, c2, c3, c4, c5, c6⟩ := hs
        clear c5 c6
        go_wp2_with fail
        refine (SX.out _).mono ?_
        rintro e v2 ⟨rfl, hb⟩
        have hs := FB32.step HS1.out hb
        have HS2 := Lib.hid hs
        clear hb c0 c1 c2 c3 c4
        obtain ⟨c0, c1, c2, c3, c4, c5, c6⟩ := hs
        clear c5 c6
        go_wp2_with fail
        refine (IM.out _).mono ?_
        rintro e w' ⟨rfl, rfl⟩
        go_wp2_with fail
        go_ret
        exact ⟨rfl, below_trans' B1.out (FB32.below HS2.out)⟩
    · have d1 : decide (2147483648 ≤ (Z : Int)) = true := decide_eq_true (by omega)
      have WH := Lib.hid WH
      clear hx hB hti IM SX hZ
      have B0 := Lib.hid (Below.refl w.heap.size w)
      go_enter Try.func6, Try.ntmps6
      go_wp2_with fail
      refine (fmt32_any _).mono ?_
      rintro e u1 ⟨rfl, hb⟩
      have B1 := Lib.hid (below_trans' B0.out hb)
      clear hb
      have HS0 := Lib.hid (FB32.start0 u1)
      go_wp2_with fail
      refine (WH.out _).mono ?_
      rintro e v1 ⟨rfl, hb⟩
      have hs := FB32.step HS0.out hb
      have HS1 := Lib.hid hs
      clear hb
      obtain ⟨c0, c1, c2, c3, c4, c5, c6⟩ := hs
      clear c5 c6
      go_wp2_with fail
      go_ret
      exact ⟨rfl, below_trans' B1.out (FB32.below HS1.out)⟩
end Go.Proofs.Ytignbdajgnnlpaa.SF
