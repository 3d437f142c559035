/-
  The walk of a law.
-/
import Derived.Test.YtajlbgdebmkbaaaWrap
import Derived.Test.YtajlbgdebmkbaaaAlikeW
import Derived.Test.YtajlbgdebmkbaaaFmtB
import Derived.Test.YtajlbgdebmkbaaaFrame
import Derived.Test.YtajlbgdebmkbaaaSpecAdd
namespace Go.Proofs.Ytajlbgdebmkbaaa.SF
open Go.ChangeShapes Go.WideShapes Go.ChangeAt Go.RowKit
set_option linter.unusedVariables false
set_option maxRecDepth 100000 in
set_option maxHeartbeats 4000000 in
theorem fnExactSub64 (x : Nat) (y : Nat) (w : World) (hx : x < 18446744073709551616) (hy : y < 18446744073709551616) : Calls Try.prog 11 #[.int .u64 (x : Int), .int .u64 (y : Int)] w (LawPost w) := by
  have NY := fun w => fnan64_any y w hy
  have ly := flip_lt64 y
  have fy := xor_flip164 hy
  have IM := fun w => implSub64 x y w hx hy
  have SP := fun w => faddS64_any x (flip64 y) w hx ly
  have lr := add_lt64 hx ly
  have NA := fun w => fnan64_any (add64 x (flip64 y)) w lr
  cases ny : isNaN64 y
  · rw [ny] at NY
    cases hn : nanAdd64 x (flip64 y)
    · rw [hn] at SP
      simp only [Bool.false_eq_true, if_false, Bool.not_false] at SP
      generalize add64 x (flip64 y) = r at *
      generalize flip64 y = g at *
      have NY := Lib.hid NY
      have IM := Lib.hid IM
      have SP := Lib.hid SP
      clear hx hy hn lr ly ny NA
      have B0 := Lib.hid (Below.refl w.heap.size w)
      go_enter Try.func11, Try.ntmps11
      go_wp2_with fail
      refine (fmt64_any _).mono ?_
      rintro e u1 ⟨rfl, hb⟩
      have B1 := Lib.hid (below_trans' B0.out hb)
      clear hb
      go_wp2_with fail
      refine (NY.out _).mono ?_
      rintro e u2 ⟨rfl, hb⟩
      have B2 := Lib.hid (below_trans' B1.out hb)
      clear hb
      go_wp2_with fail
      refine (fmt64_any _).mono ?_
      rintro e u3 ⟨rfl, hb⟩
      have B3 := Lib.hid (below_trans' B2.out hb)
      clear hb
      go_wp2_with fail
      refine (SP.out _).mono ?_
      rintro e u4 ⟨rfl, hb⟩
      have B4 := Lib.hid (below_trans' B3.out hb)
      clear hb
      go_wp2_with fail
      refine (IM.out _).mono ?_
      rintro e w' ⟨rfl, rfl⟩
      go_wp2_with fail
      go_ret
      exact ⟨rfl, B4.out⟩
    · have hq : isNaN64 (add64 x (flip64 y)) = true := by
        have e : add64 x (flip64 y) = 9221120237041090560 := if_pos hn
        rw [e]; exact nq_nan64
      rw [hq] at NA
      rw [hn] at SP
      simp only [if_true, Bool.not_true] at SP
      generalize add64 x (flip64 y) = r at *
      generalize flip64 y = g at *
      have NY := Lib.hid NY
      have IM := Lib.hid IM
      have SP := Lib.hid SP
      have NA := Lib.hid NA
      clear hx hy hn lr ly ny hq
      have B0 := Lib.hid (Below.refl w.heap.size w)
      go_enter Try.func11, Try.ntmps11
      go_wp2_with fail
      refine (fmt64_any _).mono ?_
      rintro e u1 ⟨rfl, hb⟩
      have B1 := Lib.hid (below_trans' B0.out hb)
      clear hb
      go_wp2_with fail
      refine (NY.out _).mono ?_
      rintro e u2 ⟨rfl, hb⟩
      have B2 := Lib.hid (below_trans' B1.out hb)
      clear hb
      go_wp2_with fail
      refine (fmt64_any _).mono ?_
      rintro e u3 ⟨rfl, hb⟩
      have B3 := Lib.hid (below_trans' B2.out hb)
      clear hb
      go_wp2_with fail
      refine (SP.out _).mono ?_
      rintro e u4 ⟨rfl, hb⟩
      have B4 := Lib.hid (below_trans' B3.out hb)
      clear hb
      go_wp2_with fail
      refine (IM.out _).mono ?_
      rintro e w' ⟨rfl, rfl⟩
      go_wp2_with fail
      refine (fmt64_any _).mono ?_
      rintro e u5 ⟨rfl, hb⟩
      have B5 := Lib.hid (below_trans' B4.out hb)
      clear hb
      go_wp2_with fail
      refine (NA.out _).mono ?_
      rintro e u6 ⟨rfl, hb⟩
      have B6 := Lib.hid (below_trans' B5.out hb)
      clear hb
      go_wp2_with fail
      go_ret
      exact ⟨rfl, B6.out⟩
  · rw [ny] at NY
    have hq : isNaN64 (add64 x (flip64 y)) = true := by rw [add_nr64 (by rw [isNaN_flip64]; exact ny)]; exact nq_nan64
    rw [hq] at NA
    generalize add64 x (flip64 y) = r at *
    generalize flip64 y = g at *
    have NY := Lib.hid NY
    have IM := Lib.hid IM
    have NA := Lib.hid NA
    clear hx hy lr ly ny hq SP
    have B0 := Lib.hid (Below.refl w.heap.size w)
    go_enter Try.func11, Try.ntmps11
    go_wp2_with fail
    refine (fmt64_any _).mono ?_
    rintro e u1 ⟨rfl, hb⟩
    have B1 := Lib.hid (below_trans' B0.out hb)
    clear hb
    go_wp2_with fail
    refine (NY.out _).mono ?_
    rintro e u2 ⟨rfl, hb⟩
    have B2 := Lib.hid (below_trans' B1.out hb)
    clear hb
    go_wp2_with fail
    refine (fmt64_any _).mono ?_
    rintro e u3 ⟨rfl, hb⟩
    have B3 := Lib.hid (below_trans' B2.out hb)
    clear hb
    go_wp2_with fail
    refine (IM.out _).mono ?_
    rintro e w' ⟨rfl, rfl⟩
    go_wp2_with fail
    refine (NA.out _).mono ?_
    rintro e u4 ⟨rfl, hb⟩
    have B4 := Lib.hid (below_trans' B3.out hb)
    clear hb
    go_wp2_with fail
    go_ret
    exact ⟨rfl, B4.out⟩
end Go.Proofs.Ytajlbgdebmkbaaa.SF
