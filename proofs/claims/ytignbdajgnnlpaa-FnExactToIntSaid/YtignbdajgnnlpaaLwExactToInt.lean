/-
  The walk of a law.
-/
import Derived.Test.YtignbdajgnnlpaaWrap
import Derived.Test.YtignbdajgnnlpaaAlikeW
import Derived.Test.YtignbdajgnnlpaaFmtB
import Derived.Test.YtignbdajgnnlpaaFrame
import Derived.Test.YtignbdajgnnlpaaSpecW
import Derived.Test.YtignbdajgnnlpaaToW2
import Derived.Test.YtignbdajgnnlpaaToLP
namespace Go.Proofs.Ytignbdajgnnlpaa.SF
open Go.ChangeShapes Go.WideShapes Go.ChangeAt Go.RowKit
set_option linter.unusedVariables false
set_option maxRecDepth 100000 in
set_option maxHeartbeats 4000000 in
theorem fnExactToInt (x : Nat) (w : World) (hx : x < 18446744073709551616) : Calls Try.prog 3 #[.int .u64 (x : Int)] w (LawPost w) := by
  have WH := fun w => fwhole64_any x w hx
  have SX := fun w => fneg64_any x w hx
  have IM := fun w => implToInt x w hx
  have hti := fun (h : whB64 x = true) (h2 : wh64 x < 9223372036854775808) => tiV_wh64 h h2
  have hcan := fun (h : whB64 x = true) (h2 : wh64 x ≠ 0) => tiB_wh64 h h2
  have hnot := fun (h : whB64 x = false) => tiB_not h
  generalize tiV x = V at *
  generalize tiB x = can at *
  cases hB : whB64 x
  · rw [hB] at WH
    obtain rfl := hnot hB
    simp only [Bool.false_eq_true, if_false] at WH
    have WH := Lib.hid WH
    have IM := Lib.hid IM
    clear hx hB hti hcan hnot SX
    have B0 := Lib.hid (Below.refl w.heap.size w)
    go_enter Try.func3, Try.ntmps3
    go_wp2_with fail
    refine (fmt64_any _).mono ?_
    rintro e u1 ⟨rfl, hb⟩
    have B1 := Lib.hid (below_trans' B0.out hb)
    clear hb
    have HS0 := Lib.hid (FB64.start0 u1)
    go_wp2_with fail
    refine (WH.out _).mono ?_
    rintro e v1 ⟨rfl, hb⟩
    have hs := FB64.step HS0.out hb
    have HS1 := Lib.hid hs
    clear hb
    obtain ⟨c0, c1, c2, c3, c4, c5, c6⟩ := hs
    clear c5 c6
    go_wp2_with fail
    refine (IM.out _).mono ?_
    rintro e w' ⟨rfl, rfl⟩
    go_wp2_with fail
    go_ret
    exact ⟨rfl, below_trans' B1.out (FB64.below HS1.out)⟩
  · rw [hB] at WH
    simp only [if_true] at WH
    have hti := hti hB
    have hcan := hcan hB
    generalize wh64 x = Z at *
    by_cases hZ : Z < 9223372036854775808
    · have d1 : decide (9223372036854775808 ≤ (Z : Int)) = false := decide_eq_false (by omega)
      obtain rfl := hti hZ
      generalize neg64 x = ng at *
      have c1 : IntKind.i64.wrap (Z : Int) = (Z : Int) := IntWalk.i64_in _ (by omega)
      by_cases h0 : Z = 0
      · subst h0
        have c2 : IntKind.u64.wrap (-((0 : Nat) : Int)) = 0 := by decide
        clear hx hB hti hcan hnot hZ
        cases ng <;> cases can
        all_goals
          simp only [sk, Bool.false_eq_true, if_false, if_true] at IM
          have WH := Lib.hid WH
          have SX := Lib.hid SX
          have IM := Lib.hid IM
          have B0 := Lib.hid (Below.refl w.heap.size w)
          go_enter Try.func3, Try.ntmps3
          go_wp2_with fail
          refine (fmt64_any _).mono ?_
          rintro e u1 ⟨rfl, hb⟩
          have B1 := Lib.hid (below_trans' B0.out hb)
          clear hb
          have HS0 := Lib.hid (FB64.start0 u1)
          go_wp2_with fail
          refine (WH.out _).mono ?_
          rintro e v1 ⟨rfl, hb⟩
          have hs := FB64.step HS0.out hb
          have HS1 := Lib.hid hs
          clear hb
          obtain ⟨c0, c1, c2, c3, c4, c5, c6⟩ := hs
          clear c5 c6
          go_wp2_with fail
          refine (IM.out _).mono ?_
          rintro e w' ⟨rfl, rfl⟩
          go_wp2_with fail
          refine (SX.out _).mono ?_
          rintro e v2 ⟨rfl, hb⟩
          have hs := FB64.step HS1.out hb
          have HS2 := Lib.hid hs
          clear hb c0 c1 c2 c3 c4
          obtain ⟨c0, c1, c2, c3, c4, c5, c6⟩ := hs
          clear c5 c6
          go_wp2_with fail
          go_ret
          exact ⟨rfl, below_trans' B1.out (FB64.below HS2.out)⟩
      · obtain rfl := hcan h0
        have c2 : IntKind.u64.wrap (-(Z : Int)) = ((18446744073709551616 - Z : Nat) : Int) := by rw [IntKind.wrap_u64]; omega
        have c3 : IntKind.i64.wrap ((18446744073709551616 - Z : Nat) : Int) = -(Z : Int) := by rw [IntKind.wrap_i64]; omega
        generalize 18446744073709551616 - Z = Y at *
        clear hx hB hti hcan hnot hZ h0
        cases ng
        all_goals
          simp only [sk, Bool.false_eq_true, if_false, if_true] at IM
          have WH := Lib.hid WH
          have SX := Lib.hid SX
          have IM := Lib.hid IM
          have B0 := Lib.hid (Below.refl w.heap.size w)
          go_enter Try.func3, Try.ntmps3
          go_wp2_with fail
          refine (fmt64_any _).mono ?_
          rintro e u1 ⟨rfl, hb⟩
          have B1 := Lib.hid (below_trans' B0.out hb)
          clear hb
          have HS0 := Lib.hid (FB64.start0 u1)
          go_wp2_with fail
          refine (WH.out _).mono ?_
          rintro e v1 ⟨rfl, hb⟩
          have hs := FB64.step HS0.out hb
          have HS1 := Lib.hid hs
          clear hb
          obtain ⟨c0, c1, c2, c3, c4, c5, c6⟩ := hs
          clear c5 c6
          go_wp2_with fail
          refine (IM.out _).mono ?_
          rintro e w' ⟨rfl, rfl⟩
          go_wp2_with fail
          refine (SX.out _).mono ?_
          rintro e v2 ⟨rfl, hb⟩
          have hs := FB64.step HS1.out hb
          have HS2 := Lib.hid hs
          clear hb c0 c1 c2 c3 c4
          obtain ⟨c0, c1, c2, c3, c4, c5, c6⟩ := hs
          clear c5 c6
          go_wp2_with fail
          go_ret
          exact ⟨rfl, below_trans' B1.out (FB64.below HS2.out)⟩
    · have d1 : decide (9223372036854775808 ≤ (Z : Int)) = true := decide_eq_true (by omega)
      have WH := Lib.hid WH
      have IM := Lib.hid IM
      clear hx hB hti hcan hnot SX hZ
      have B0 := Lib.hid (Below.refl w.heap.size w)
      go_enter Try.func3, Try.ntmps3
      go_wp2_with fail
      refine (fmt64_any _).mono ?_
      rintro e u1 ⟨rfl, hb⟩
      have B1 := Lib.hid (below_trans' B0.out hb)
      clear hb
      have HS0 := Lib.hid (FB64.start0 u1)
      go_wp2_with fail
      refine (WH.out _).mono ?_
      rintro e v1 ⟨rfl, hb⟩
      have hs := FB64.step HS0.out hb
      have HS1 := Lib.hid hs
      clear hb
      obtain ⟨c0, c1, c2, c3, c4, c5, c6⟩ := hs
      clear c5 c6
      go_wp2_with fail
      refine (IM.out _).mono ?_
      rintro e w' ⟨rfl, rfl⟩
      go_wp2_with fail
      go_ret
      exact ⟨rfl, below_trans' B1.out (FB64.below HS1.out)⟩
end Go.Proofs.Ytignbdajgnnlpaa.SF
