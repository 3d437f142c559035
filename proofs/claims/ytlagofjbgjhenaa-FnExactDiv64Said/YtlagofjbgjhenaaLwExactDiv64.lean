/-
  The walk of a law.
-/
import Derived.Test.YtlagofjbgjhenaaWrap
import Derived.Test.YtlagofjbgjhenaaAlikeW
import Derived.Test.YtlagofjbgjhenaaFmtB
import Derived.Test.YtlagofjbgjhenaaFrame
import Derived.Test.YtlagofjbgjhenaaSpecDiv
namespace Go.Proofs.Ytlagofjbgjhenaa.SF
open Go.ChangeShapes Go.WideShapes Go.ChangeAt Go.RowKit
set_option linter.unusedVariables false
set_option maxRecDepth 100000 in
set_option maxHeartbeats 4000000 in
theorem fnExactDiv64 (x : Nat) (y : Nat) (w : World) (hx : x < 18446744073709551616) (hy : y < 18446744073709551616) : Calls Try.prog 4 #[.int .u64 (x : Int), .int .u64 (y : Int)] w (LawPost w) := by
  have SP := fun w => fdivS64_any x y w hx hy
  have IM := fun w => implDiv64 x y w hx hy
  have lr := div_lt64 x y
  cases hn : nanDiv64 x y
  · rw [hn] at SP
    simp only [Bool.false_eq_true, if_false, Bool.not_false] at SP
    generalize div64 x y = r at *
    have SP := Lib.hid SP
    have IM := Lib.hid IM
    clear hx hy hn lr
    have B0 := Lib.hid (Below.refl w.heap.size w)
    go_enter Try.func4, Try.ntmps4
    go_wp2_with fail
    refine (fmt64_any _).mono ?_
    rintro e u1 ⟨rfl, hb⟩
    have B1 := Lib.hid (below_trans' B0.out hb)
    clear hb
    go_wp2_with fail
    refine (SP.out _).mono ?_
    rintro e u2 ⟨rfl, hb⟩
    have B2 := Lib.hid (below_trans' B1.out hb)
    clear hb
    go_wp2_with fail
    refine (IM.out _).mono ?_
    rintro e w' ⟨rfl, rfl⟩
    go_wp2_with fail
    go_ret
    exact ⟨rfl, B2.out⟩
  · have hq : isNaN64 (div64 x y) = true := by
      have e : div64 x y = 9221120237041090560 := if_pos hn
      rw [e]; exact nq_nan64
    have NA := fun w => fnan64_any (div64 x y) w lr
    rw [hq] at NA
    rw [hn] at SP
    simp only [if_true, Bool.not_true] at SP
    generalize div64 x y = r at *
    have SP := Lib.hid SP
    have IM := Lib.hid IM
    have NA := Lib.hid NA
    clear hx hy hn lr hq
    have B0 := Lib.hid (Below.refl w.heap.size w)
    go_enter Try.func4, Try.ntmps4
    go_wp2_with fail
    refine (fmt64_any _).mono ?_
    rintro e u1 ⟨rfl, hb⟩
    have B1 := Lib.hid (below_trans' B0.out hb)
    clear hb
    go_wp2_with fail
    refine (SP.out _).mono ?_
    rintro e u2 ⟨rfl, hb⟩
    have B2 := Lib.hid (below_trans' B1.out hb)
    clear hb
    go_wp2_with fail
    refine (IM.out _).mono ?_
    rintro e w' ⟨rfl, rfl⟩
    go_wp2_with fail
    refine (fmt64_any _).mono ?_
    rintro e u3 ⟨rfl, hb⟩
    have B3 := Lib.hid (below_trans' B2.out hb)
    clear hb
    go_wp2_with fail
    refine (NA.out _).mono ?_
    rintro e u4 ⟨rfl, hb⟩
    have B4 := Lib.hid (below_trans' B3.out hb)
    clear hb
    go_wp2_with fail
    go_ret
    exact ⟨rfl, B4.out⟩
end Go.Proofs.Ytlagofjbgjhenaa.SF
