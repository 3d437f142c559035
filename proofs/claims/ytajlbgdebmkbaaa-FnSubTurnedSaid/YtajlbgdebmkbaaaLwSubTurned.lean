/-
  The walk of a law.
-/
import Derived.Test.YtajlbgdebmkbaaaWrap
import Derived.Test.YtajlbgdebmkbaaaAlikeW
import Derived.Test.YtajlbgdebmkbaaaFmtB
import Derived.Test.YtajlbgdebmkbaaaFrame
import Derived.Test.YtajlbgdebmkbaaaAlgB
import Derived.Test.YtajlbgdebmkbaaaCmpK
namespace Go.Proofs.Ytajlbgdebmkbaaa.SF
open Go.ChangeShapes Go.WideShapes Go.ChangeAt Go.RowKit
set_option linter.unusedVariables false
set_option maxRecDepth 100000 in
set_option maxHeartbeats 4000000 in
theorem fnSubTurned (x : Nat) (y : Nat) (w : World) (hx : x < 18446744073709551616) (hy : y < 18446744073709551616) : Calls Try.prog 14 #[.int .u64 (x : Int), .int .u64 (y : Int)] w (LawPost w) := by
  have lx := flip_lt64 x
  have ly := flip_lt64 y
  have S1 := fun w => implSub64 x y w hx hy
  have S2 := fun w => implSub64 y x w hy hx
  have l1 := add_lt64 hx ly
  have l2 := add_lt64 hy lx
  have Z1 := fun w => fzero64_any (add64 x (flip64 y)) w l1
  cases hz : isZero64 (add64 x (flip64 y))
  · have N1 := fun w => implNeg64 (add64 x (flip64 y)) w l1
    have L1 := fun w => alike64_any (add64 y (flip64 x)) (flip64 (add64 x (flip64 y))) w l2 (flip_lt64 _)
    rw [sub_turned64 hx hy hz] at L1
    rw [hz] at Z1
    generalize flip64 (add64 x (flip64 y)) = fd at *
    generalize add64 x (flip64 y) = d at *
    generalize add64 y (flip64 x) = d2 at *
    have S1 := Lib.hid S1
    have S2 := Lib.hid S2
    have Z1 := Lib.hid Z1
    have N1 := Lib.hid N1
    have L1 := Lib.hid L1
    clear hx hy hz lx ly l1 l2
    have B0 := Lib.hid (Below.refl w.heap.size w)
    go_enter Try.func14, Try.ntmps14
    go_wp2_with fail
    refine (fmt64_any _).mono ?_
    rintro e u1 ⟨rfl, hb⟩
    have B1 := Lib.hid (below_trans' B0.out hb)
    clear hb
    have HS0 := Lib.hid (FB64.start0 u1)
    go_wp2_with fail
    refine (S1.out _).mono ?_
    rintro e w' ⟨rfl, rfl⟩
    go_wp2_with fail
    refine (Z1.out _).mono ?_
    rintro e v1 ⟨rfl, hb⟩
    have hs := FB64.step HS0.out hb
    have HS1 := Lib.hid hs
    clear hb
    obtain ⟨c0, c1, c2, c3, c4, c5, c6⟩ := hs
    clear c5 c6
    have HD1 := Lib.hid (FB64.drew HS1.out)
    go_wp2_with fail
    go_region_held3 (fun w' => FB64 u1 w') (first | assumption | exact HD1.out) (first | (go_at_call 43; (first | with_reducible refine (S2.out _).mono ?_); rintro e q ⟨rfl, rfl⟩) | (go_at_call 45; (first | with_reducible refine (N1.out _).mono ?_); rintro e q ⟨rfl, rfl⟩) | (go_at_call 25; (first | with_reducible refine (L1.out _).mono ?_); rintro e q ⟨rfl, hb⟩; have hs := FB64.step (w := u1) (by assumption) hb; clear hb))
    all_goals go_wp2_with fail
    all_goals
      go_ret
      exact ⟨rfl, below_trans' B1.out (FB64.below (by assumption))⟩
  · have hf := sub_zero_ok64 hx hy hz
    have hk := (sub_zero_iff64 hf.1 hf.2).mp hz
    have hz2 := (sub_zero_iff64 hf.2 hf.1).mpr hk.symm
    have Z2 := fun w => fzero64_any (add64 y (flip64 x)) w l2
    have CM := fun w => fcmpS64_any x y w hx hy
    rw [cmpS_key64 hx hy, show ordI (key64 x) (key64 y) = 0 by rw [hk]; simp [ordI]] at CM
    rw [hz] at Z1
    rw [hz2] at Z2
    generalize add64 x (flip64 y) = d at *
    generalize add64 y (flip64 x) = d2 at *
    have S1 := Lib.hid S1
    have S2 := Lib.hid S2
    have Z1 := Lib.hid Z1
    have Z2 := Lib.hid Z2
    have CM := Lib.hid CM
    clear hx hy hz lx ly l1 l2 hf hk hz2
    have B0 := Lib.hid (Below.refl w.heap.size w)
    go_enter Try.func14, Try.ntmps14
    go_wp2_with fail
    refine (fmt64_any _).mono ?_
    rintro e u1 ⟨rfl, hb⟩
    have B1 := Lib.hid (below_trans' B0.out hb)
    clear hb
    have HS0 := Lib.hid (FB64.start0 u1)
    go_wp2_with fail
    refine (S1.out _).mono ?_
    rintro e w' ⟨rfl, rfl⟩
    go_wp2_with fail
    refine (Z1.out _).mono ?_
    rintro e v1 ⟨rfl, hb⟩
    have hs := FB64.step HS0.out hb
    have HS1 := Lib.hid hs
    clear hb
    obtain ⟨c0, c1, c2, c3, c4, c5, c6⟩ := hs
    clear c5 c6
    have HD1 := Lib.hid (FB64.drew HS1.out)
    go_wp2_with fail
    go_region_held3 (fun w' => FB64 u1 w') (first | assumption | exact HD1.out) (first | (go_at_call 43; (first | with_reducible refine (S2.out _).mono ?_); rintro e q ⟨rfl, rfl⟩) | (go_at_call 20; (first | with_reducible refine (Z2.out _).mono ?_); rintro e q ⟨rfl, hb⟩; have hs := FB64.step (w := u1) (by assumption) hb; clear hb) | (go_at_call 19; (first | with_reducible refine (CM.out _).mono ?_); rintro e q ⟨rfl, hb⟩; have hs := FB64.step (w := u1) (by assumption) hb; clear hb))
    all_goals go_wp2_with fail
    all_goals
      go_ret
      exact ⟨rfl, below_trans' B1.out (FB64.below (by assumption))⟩
end Go.Proofs.Ytajlbgdebmkbaaa.SF
