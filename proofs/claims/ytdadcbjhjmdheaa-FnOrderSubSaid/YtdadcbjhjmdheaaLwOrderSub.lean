/-
  The walk of a law.
-/
import Derived.Test.YtdadcbjhjmdheaaWrap
import Derived.Test.YtdadcbjhjmdheaaAlikeW
import Derived.Test.YtdadcbjhjmdheaaFmtB
import Derived.Test.YtdadcbjhjmdheaaFrame
import Derived.Test.YtdadcbjhjmdheaaAlgB
import Derived.Test.YtdadcbjhjmdheaaOrdK
namespace Go.Proofs.Ytdadcbjhjmdheaa.SF
open Go.ChangeShapes Go.WideShapes Go.ChangeAt Go.RowKit
set_option linter.unusedVariables false
set_option maxRecDepth 100000 in
set_option maxHeartbeats 4000000 in
theorem fnOrderSub (x : Nat) (y : Nat) (w : World) (hx : x < 18446744073709551616) (hy : y < 18446744073709551616) : Calls Try.prog 9 #[.int .u64 (x : Int), .int .u64 (y : Int)] w (LawPost w) := by
  have FX := fun w => ffin64_any x w hx
  have FY := fun w => ffin64_any y w hy
  cases fx : fin64 x
  · rw [fx] at FX
    have FX := Lib.hid FX
    clear hx hy fx FY
    have B0 := Lib.hid (Below.refl w.heap.size w)
    go_enter Try.func9, Try.ntmps9
    go_wp2_with fail
    refine (fmt64_any _).mono ?_
    rintro e u1 ⟨rfl, hb⟩
    have B1 := Lib.hid (below_trans' B0.out hb)
    clear hb
    have HS0 := Lib.hid (FB64.start0 u1)
    go_wp2_with fail
    refine (FX.out _).mono ?_
    rintro e v1 ⟨rfl, hb⟩
    have hs := FB64.step HS0.out hb
    have HS1 := Lib.hid hs
    clear hb
    obtain ⟨c0, c1, c2, c3, c4, c5, c6⟩ := hs
    clear c5 c6
    go_wp2_with fail
    go_ret
    exact ⟨rfl, below_trans' B1.out (FB64.below HS1.out)⟩
  · cases fy : fin64 y
    · rw [fx] at FX
      rw [fy] at FY
      have FX := Lib.hid FX
      have FY := Lib.hid FY
      clear hx hy fx fy
      have B0 := Lib.hid (Below.refl w.heap.size w)
      go_enter Try.func9, Try.ntmps9
      go_wp2_with fail
      refine (fmt64_any _).mono ?_
      rintro e u1 ⟨rfl, hb⟩
      have B1 := Lib.hid (below_trans' B0.out hb)
      clear hb
      have HS0 := Lib.hid (FB64.start0 u1)
      go_wp2_with fail
      refine (FX.out _).mono ?_
      rintro e v1 ⟨rfl, hb⟩
      have hs := FB64.step HS0.out hb
      have HS1 := Lib.hid hs
      clear hb
      obtain ⟨c0, c1, c2, c3, c4, c5, c6⟩ := hs
      clear c5 c6
      go_wp2_with fail
      refine (FY.out _).mono ?_
      rintro e v2 ⟨rfl, hb⟩
      have hs := FB64.step HS1.out hb
      have HS2 := Lib.hid hs
      clear hb c0 c1 c2 c3 c4
      obtain ⟨c0, c1, c2, c3, c4, c5, c6⟩ := hs
      clear c5 c6
      go_wp2_with fail
      go_ret
      exact ⟨rfl, below_trans' B1.out (FB64.below HS2.out)⟩
    · rw [fx] at FX
      rw [fy] at FY
      have ly := flip_lt64 y
      have ld := add_lt64 hx ly
      have nx := (fin_nan64 fx).1
      have ny := (fin_nan64 fy).1
      have nd : isNaN64 (add64 x (flip64 y)) = false := by rw [add_ff64 fx (by rw [fin_flip64]; exact fy)]; exact nan_addf64 _ _
      have GT := fun w => implGt64 x y w hx hy
      have SB := fun w => implSub64 x y w hx hy
      have GZ : ∀ w, Calls Try.prog 29 #[.int .u64 ((add64 x (flip64 y) : Nat) : Int), .int .u64 0] w (RetW (.bool (gtB (add64 x (flip64 y)) 0)) w) := fun w => implGt64 (add64 x (flip64 y)) 0 w ld (by omega)
      have EQ := fun w => implEq64 x y w hx hy
      have ZD := fun w => fzero64_any (add64 x (flip64 y)) w ld
      rw [gtB_key hx hy nx ny] at GT
      rw [gtB_key ld (by omega) nd (by decide)] at GZ
      rw [eqB_key hx hy nx ny] at EQ
      have e1 : decide (key64 0 < key64 (add64 x (flip64 y))) = decide (key64 y < key64 x) := by
        rw [show key64 0 = 0 by decide, Bool.eq_iff_iff, decide_eq_true_iff, decide_eq_true_iff]; exact key_sub_pos64 fx fy
      have e2 : decide (key64 x = key64 y) = isZero64 (add64 x (flip64 y)) := by
        rw [Bool.eq_iff_iff, decide_eq_true_iff]; exact (sub_zero_iff64 fx fy).symm
      rw [e1] at GZ
      rw [e2] at EQ
      generalize isZero64 (add64 x (flip64 y)) = q at *
      generalize decide (key64 y < key64 x) = p at *
      generalize add64 x (flip64 y) = d at *
      have FX := Lib.hid FX
      have FY := Lib.hid FY
      have GT := Lib.hid GT
      have SB := Lib.hid SB
      have GZ := Lib.hid GZ
      have EQ := Lib.hid EQ
      have ZD := Lib.hid ZD
      clear hx hy fx fy ly ld nx ny nd e1 e2
      cases p <;> cases q
      all_goals
        have B0 := Lib.hid (Below.refl w.heap.size w)
        go_enter Try.func9, Try.ntmps9
        go_wp2_with fail
        refine (fmt64_any _).mono ?_
        rintro e u1 ⟨rfl, hb⟩
        have B1 := Lib.hid (below_trans' B0.out hb)
        clear hb
        have HS0 := Lib.hid (FB64.start0 u1)
        go_wp2_with fail
        refine (FX.out _).mono ?_
        rintro e v1 ⟨rfl, hb⟩
        have hs := FB64.step HS0.out hb
        have HS1 := Lib.hid hs
        clear hb
        obtain ⟨c0, c1, c2, c3, c4, c5, c6⟩ := hs
        clear c5 c6
        go_wp2_with fail
        refine (FY.out _).mono ?_
        rintro e v2 ⟨rfl, hb⟩
        have hs := FB64.step HS1.out hb
        have HS2 := Lib.hid hs
        clear hb c0 c1 c2 c3 c4
        obtain ⟨c0, c1, c2, c3, c4, c5, c6⟩ := hs
        clear c5 c6
        have HD2 := Lib.hid (FB64.drew HS2.out)
        go_wp2_with fail
        go_region_held3 (fun w' => FB64 u1 w') (first | assumption | exact HD2.out) (first | (go_at_call 29; (first | with_reducible refine (GT.out _).mono ?_ | with_reducible refine (GZ.out _).mono ?_); rintro e q ⟨rfl, rfl⟩) | (go_at_call 30; (first | with_reducible refine (SB.out _).mono ?_); rintro e q ⟨rfl, rfl⟩) | (go_at_call 31; (first | with_reducible refine (EQ.out _).mono ?_); rintro e q ⟨rfl, rfl⟩) | (go_at_call 32; (first | with_reducible refine (ZD.out _).mono ?_); rintro e q ⟨rfl, hb⟩; have hs := FB64.step (w := u1) (by assumption) hb; clear hb))
        all_goals go_wp2_with fail
        all_goals
          go_ret
          exact ⟨rfl, below_trans' B1.out (FB64.below (by assumption))⟩
end Go.Proofs.Ytdadcbjhjmdheaa.SF
