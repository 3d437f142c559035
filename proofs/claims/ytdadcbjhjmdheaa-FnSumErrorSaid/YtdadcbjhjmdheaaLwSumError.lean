/-
  The walk of a law.
-/
import Derived.Test.YtdadcbjhjmdheaaWrap
import Derived.Test.YtdadcbjhjmdheaaAlikeW
import Derived.Test.YtdadcbjhjmdheaaFmtB
import Derived.Test.YtdadcbjhjmdheaaFrame
import Derived.Test.YtdadcbjhjmdheaaSumP
import Derived.Test.YtdadcbjhjmdheaaCmpK
import Derived.Test.YtdadcbjhjmdheaaSpecS
import Derived.Test.YtdadcbjhjmdheaaOrdC
namespace Go.Proofs.Ytdadcbjhjmdheaa.SF
open Go.ChangeShapes Go.WideShapes Go.ChangeAt Go.RowKit
set_option linter.unusedVariables false
set_option maxRecDepth 100000 in
set_option maxHeartbeats 4000000 in
theorem fnSumError (x : Nat) (y : Nat) (w : World) (hx : x < 18446744073709551616) (hy : y < 18446744073709551616) : Calls Try.prog 11 #[.int .u64 (x : Int), .int .u64 (y : Int)] w (LawPost w) := by
  have lm := mag_lt64 x
  have ln := mag_lt64 y
  have ex := mag_bits64 hx
  have ey := mag_bits64 hy
  have ls := add_lt64 hx hy
  have AD := fun w => implAdd64 x y w hx hy
  have FX := fun w => ffin64_any x w hx
  have FY := fun w => ffin64_any y w hy
  have FS := fun w => ffin64_any (add64 x y) w ls
  have CM := fun w => fcmpS64_any (mag64 x) (mag64 y) w (by omega) (by omega)
  rw [cmpS_key64 (by omega) (by omega)] at CM
  have km : ∀ v : Nat, key64 (mag64 v) = mag64 v := fun v => by have := mag_lt64 v; unfold key64; rw [show neg64 (mag64 v) = false from decide_eq_false (by omega), show mag64 (mag64 v) = mag64 v from Nat.mod_eq_of_lt this]; rfl
  rw [km, km] at CM
  cases fx : fin64 x
  · rw [fx] at FX
    generalize add64 x y = s at *
    have AD := Lib.hid AD
    have FX := Lib.hid FX
    clear hx hy fx FY FS CM km ls lm ln
    have B0 := Lib.hid (Below.refl w.heap.size w)
    go_enter Try.func11, Try.ntmps11
    go_wp2_with fail
    refine (fmt64_any _).mono ?_
    rintro e u1 ⟨rfl, hb⟩
    have B1 := Lib.hid (below_trans' B0.out hb)
    clear hb
    have HS0 := Lib.hid (FB64.start0 u1)
    go_wp2_with fail
    refine (AD.out _).mono ?_
    rintro e w' ⟨rfl, rfl⟩
    go_wp2_with fail
    refine (FX.out _).mono ?_
    rintro e v1 ⟨rfl, hb⟩
    have hs := FB64.step HS0.out hb
    have HS1 := Lib.hid hs
    clear hb
    obtain ⟨c0, c1, c2, c3, c4, c5, c6⟩ := hs
    clear c5 c6
    go_wp2_with fail
    go_ret
    exact ⟨rfl, below_trans' B1.out (FB64.below HS1.out)⟩
  · cases fy : fin64 y
    · rw [fx] at FX
      rw [fy] at FY
      generalize add64 x y = s at *
      have AD := Lib.hid AD
      have FX := Lib.hid FX
      have FY := Lib.hid FY
      clear hx hy fx fy FS CM km ls lm ln
      have B0 := Lib.hid (Below.refl w.heap.size w)
      go_enter Try.func11, Try.ntmps11
      go_wp2_with fail
      refine (fmt64_any _).mono ?_
      rintro e u1 ⟨rfl, hb⟩
      have B1 := Lib.hid (below_trans' B0.out hb)
      clear hb
      have HS0 := Lib.hid (FB64.start0 u1)
      go_wp2_with fail
      refine (AD.out _).mono ?_
      rintro e w' ⟨rfl, rfl⟩
      go_wp2_with fail
      refine (FX.out _).mono ?_
      rintro e v1 ⟨rfl, hb⟩
      have hs := FB64.step HS0.out hb
      have HS1 := Lib.hid hs
      clear hb
      obtain ⟨c0, c1, c2, c3, c4, c5, c6⟩ := hs
      clear c5 c6
      go_wp2_with fail
      refine (FY.out _).mono ?_
      rintro e v2 ⟨rfl, hb⟩
      have hs := FB64.step HS1.out hb
      have HS2 := Lib.hid hs
      clear hb c0 c1 c2 c3 c4
      obtain ⟨c0, c1, c2, c3, c4, c5, c6⟩ := hs
      clear c5 c6
      go_wp2_with fail
      go_ret
      exact ⟨rfl, below_trans' B1.out (FB64.below HS2.out)⟩
    · cases fs : fin64 (add64 x y)
      · rw [fx] at FX
        rw [fy] at FY
        rw [fs] at FS
        generalize add64 x y = s at *
        have AD := Lib.hid AD
        have FX := Lib.hid FX
        have FY := Lib.hid FY
        have FS := Lib.hid FS
        clear hx hy fx fy fs CM km ls lm ln
        have B0 := Lib.hid (Below.refl w.heap.size w)
        go_enter Try.func11, Try.ntmps11
        go_wp2_with fail
        refine (fmt64_any _).mono ?_
        rintro e u1 ⟨rfl, hb⟩
        have B1 := Lib.hid (below_trans' B0.out hb)
        clear hb
        have HS0 := Lib.hid (FB64.start0 u1)
        go_wp2_with fail
        refine (AD.out _).mono ?_
        rintro e w' ⟨rfl, rfl⟩
        go_wp2_with fail
        refine (FX.out _).mono ?_
        rintro e v1 ⟨rfl, hb⟩
        have hs := FB64.step HS0.out hb
        have HS1 := Lib.hid hs
        clear hb
        obtain ⟨c0, c1, c2, c3, c4, c5, c6⟩ := hs
        clear c5 c6
        go_wp2_with fail
        refine (FY.out _).mono ?_
        rintro e v2 ⟨rfl, hb⟩
        have hs := FB64.step HS1.out hb
        have HS2 := Lib.hid hs
        clear hb c0 c1 c2 c3 c4
        obtain ⟨c0, c1, c2, c3, c4, c5, c6⟩ := hs
        clear c5 c6
        go_wp2_with fail
        refine (FS.out _).mono ?_
        rintro e v3 ⟨rfl, hb⟩
        have hs := FB64.step HS2.out hb
        have HS3 := Lib.hid hs
        clear hb c0 c1 c2 c3 c4
        obtain ⟨c0, c1, c2, c3, c4, c5, c6⟩ := hs
        clear c5 c6
        go_wp2_with fail
        go_ret
        exact ⟨rfl, below_trans' B1.out (FB64.below HS3.out)⟩
      · rw [fx] at FX
        rw [fy] at FY
        rw [fs] at FS
        by_cases ho : ordI (mag64 x : Int) (mag64 y : Int) < 0
        · skip
          have d0 := decide_eq_true ho
          have hm : mag64 x ≤ mag64 y := by have := @ord_lt_iff (mag64 x : Int) (mag64 y : Int); omega
          have hc := add_comm64 y x
          have fs' : fin64 (add64 y x) = true := by rw [hc]; exact fs
          obtain ⟨f1, f2, f3⟩ := sum_error fy fx fs' hm
          rw [hc] at f1 f2 f3
          have f4 : sv64 y + sv64 x = sv64 (add64 x y) + sv64 (add64 x (flip64 (add64 (add64 x y) (flip64 y)))) := f3
          have lz := add_lt64 ls (flip_lt64 y)
          have ll := add_lt64 hx (flip_lt64 (add64 (add64 x y) (flip64 y)))
          have S1 := fun w => implSub64 (add64 x y) y w ls hy
          have S2 := fun w => implSub64 x (add64 (add64 x y) (flip64 y)) w hx lz
          have FL := fun w => ffin64_any (add64 x (flip64 (add64 (add64 x y) (flip64 y)))) w ll
          rw [f1] at FL
          have A2 := fun w => implAdd64 (add64 x y) (add64 x (flip64 (add64 (add64 x y) (flip64 y)))) w ls ll
          rw [f2] at A2
          have SS := fun w => fsame64_any y x (add64 x y) (add64 x (flip64 (add64 (add64 x y) (flip64 y)))) w hy hx ls ll f4
          generalize add64 x (flip64 (add64 (add64 x y) (flip64 y))) = l at *
          generalize add64 (add64 x y) (flip64 y) = z at *
          generalize add64 x y = s at *
          generalize mag64 x = mx at *
          generalize mag64 y = my at *
          generalize ordI (mx : Int) (my : Int) = o at *
          have AD := Lib.hid AD
          have FX := Lib.hid FX
          have FY := Lib.hid FY
          have FS := Lib.hid FS
          have CM := Lib.hid CM
          have S1 := Lib.hid S1
          have S2 := Lib.hid S2
          have FL := Lib.hid FL
          have A2 := Lib.hid A2
          have SS := Lib.hid SS
          clear f1 f2 f4 hm ho fx fy fs lz ll ls hx hy km lm ln f3 fs' hc
          have B0 := Lib.hid (Below.refl w.heap.size w)
          go_enter Try.func11, Try.ntmps11
          go_wp2_with fail
          refine (fmt64_any _).mono ?_
          rintro e u1 ⟨rfl, hb⟩
          have B1 := Lib.hid (below_trans' B0.out hb)
          clear hb
          have HS0 := Lib.hid (FB64.start0 u1)
          go_wp2_with fail
          refine (AD.out _).mono ?_
          rintro e w' ⟨rfl, rfl⟩
          go_wp2_with fail
          refine (FX.out _).mono ?_
          rintro e v1 ⟨rfl, hb⟩
          have hs := FB64.step HS0.out hb
          have HS1 := Lib.hid hs
          clear hb
          obtain ⟨c0, c1, c2, c3, c4, c5, c6⟩ := hs
          clear c5 c6
          go_wp2_with fail
          refine (FY.out _).mono ?_
          rintro e v2 ⟨rfl, hb⟩
          have hs := FB64.step HS1.out hb
          have HS2 := Lib.hid hs
          clear hb c0 c1 c2 c3 c4
          obtain ⟨c0, c1, c2, c3, c4, c5, c6⟩ := hs
          clear c5 c6
          go_wp2_with fail
          refine (FS.out _).mono ?_
          rintro e v3 ⟨rfl, hb⟩
          have hs := FB64.step HS2.out hb
          have HS3 := Lib.hid hs
          clear hb c0 c1 c2 c3 c4
          obtain ⟨c0, c1, c2, c3, c4, c5, c6⟩ := hs
          clear c5 c6
          go_wp2_with fail
          refine (CM.out _).mono ?_
          rintro e v4 ⟨rfl, hb⟩
          have hs := FB64.step HS3.out hb
          have HS4 := Lib.hid hs
          clear hb c0 c1 c2 c3 c4
          obtain ⟨c0, c1, c2, c3, c4, c5, c6⟩ := hs
          clear c5 c6
          go_wp2_with fail
          refine (S1.out _).mono ?_
          rintro e w' ⟨rfl, rfl⟩
          go_wp2_with fail
          refine (S2.out _).mono ?_
          rintro e w' ⟨rfl, rfl⟩
          go_wp2_with fail
          refine (FL.out _).mono ?_
          rintro e v5 ⟨rfl, hb⟩
          have hs := FB64.step HS4.out hb
          have HS5 := Lib.hid hs
          clear hb c0 c1 c2 c3 c4
          obtain ⟨c0, c1, c2, c3, c4, c5, c6⟩ := hs
          clear c5 c6
          go_wp2_with fail
          refine (A2.out _).mono ?_
          rintro e w' ⟨rfl, rfl⟩
          go_wp2_with fail
          refine (SS.out _).mono ?_
          rintro e v6 ⟨rfl, hb⟩
          have hs := FB64.step HS5.out hb
          have HS6 := Lib.hid hs
          clear hb c0 c1 c2 c3 c4
          obtain ⟨c0, c1, c2, c3, c4, c5, c6⟩ := hs
          clear c5 c6
          go_wp2_with fail
          go_ret
          exact ⟨rfl, below_trans' B1.out (FB64.below HS6.out)⟩
        · skip
          have d0 := decide_eq_false ho
          have hm : mag64 y ≤ mag64 x := by have := @ord_lt_iff (mag64 x : Int) (mag64 y : Int); omega
          obtain ⟨f1, f2, f4⟩ := sum_error fx fy fs hm
          have lz := add_lt64 ls (flip_lt64 x)
          have ll := add_lt64 hy (flip_lt64 (add64 (add64 x y) (flip64 x)))
          have S1 := fun w => implSub64 (add64 x y) x w ls hx
          have S2 := fun w => implSub64 y (add64 (add64 x y) (flip64 x)) w hy lz
          have FL := fun w => ffin64_any (add64 y (flip64 (add64 (add64 x y) (flip64 x)))) w ll
          rw [f1] at FL
          have A2 := fun w => implAdd64 (add64 x y) (add64 y (flip64 (add64 (add64 x y) (flip64 x)))) w ls ll
          rw [f2] at A2
          have SS := fun w => fsame64_any x y (add64 x y) (add64 y (flip64 (add64 (add64 x y) (flip64 x)))) w hx hy ls ll f4
          generalize add64 y (flip64 (add64 (add64 x y) (flip64 x))) = l at *
          generalize add64 (add64 x y) (flip64 x) = z at *
          generalize add64 x y = s at *
          generalize mag64 x = mx at *
          generalize mag64 y = my at *
          generalize ordI (mx : Int) (my : Int) = o at *
          have AD := Lib.hid AD
          have FX := Lib.hid FX
          have FY := Lib.hid FY
          have FS := Lib.hid FS
          have CM := Lib.hid CM
          have S1 := Lib.hid S1
          have S2 := Lib.hid S2
          have FL := Lib.hid FL
          have A2 := Lib.hid A2
          have SS := Lib.hid SS
          clear f1 f2 f4 hm ho fx fy fs lz ll ls hx hy km lm ln
          have B0 := Lib.hid (Below.refl w.heap.size w)
          go_enter Try.func11, Try.ntmps11
          go_wp2_with fail
          refine (fmt64_any _).mono ?_
          rintro e u1 ⟨rfl, hb⟩
          have B1 := Lib.hid (below_trans' B0.out hb)
          clear hb
          have HS0 := Lib.hid (FB64.start0 u1)
          go_wp2_with fail
          refine (AD.out _).mono ?_
          rintro e w' ⟨rfl, rfl⟩
          go_wp2_with fail
          refine (FX.out _).mono ?_
          rintro e v1 ⟨rfl, hb⟩
          have hs := FB64.step HS0.out hb
          have HS1 := Lib.hid hs
          clear hb
          obtain ⟨c0, c1, c2, c3, c4, c5, c6⟩ := hs
          clear c5 c6
          go_wp2_with fail
          refine (FY.out _).mono ?_
          rintro e v2 ⟨rfl, hb⟩
          have hs := FB64.step HS1.out hb
          have HS2 := Lib.hid hs
          clear hb c0 c1 c2 c3 c4
          obtain ⟨c0, c1, c2, c3, c4, c5, c6⟩ := hs
          clear c5 c6
          go_wp2_with fail
          refine (FS.out _).mono ?_
          rintro e v3 ⟨rfl, hb⟩
          have hs := FB64.step HS2.out hb
          have HS3 := Lib.hid hs
          clear hb c0 c1 c2 c3 c4
          obtain ⟨c0, c1, c2, c3, c4, c5, c6⟩ := hs
          clear c5 c6
          go_wp2_with fail
          refine (CM.out _).mono ?_
          rintro e v4 ⟨rfl, hb⟩
          have hs := FB64.step HS3.out hb
          have HS4 := Lib.hid hs
          clear hb c0 c1 c2 c3 c4
          obtain ⟨c0, c1, c2, c3, c4, c5, c6⟩ := hs
          clear c5 c6
          go_wp2_with fail
          refine (S1.out _).mono ?_
          rintro e w' ⟨rfl, rfl⟩
          go_wp2_with fail
          refine (S2.out _).mono ?_
          rintro e w' ⟨rfl, rfl⟩
          go_wp2_with fail
          refine (FL.out _).mono ?_
          rintro e v5 ⟨rfl, hb⟩
          have hs := FB64.step HS4.out hb
          have HS5 := Lib.hid hs
          clear hb c0 c1 c2 c3 c4
          obtain ⟨c0, c1, c2, c3, c4, c5, c6⟩ := hs
          clear c5 c6
          go_wp2_with fail
          refine (A2.out _).mono ?_
          rintro e w' ⟨rfl, rfl⟩
          go_wp2_with fail
          refine (SS.out _).mono ?_
          rintro e v6 ⟨rfl, hb⟩
          have hs := FB64.step HS5.out hb
          have HS6 := Lib.hid hs
          clear hb c0 c1 c2 c3 c4
          obtain ⟨c0, c1, c2, c3, c4, c5, c6⟩ := hs
          clear c5 c6
          go_wp2_with fail
          go_ret
          exact ⟨rfl, below_trans' B1.out (FB64.below HS6.out)⟩
end Go.Proofs.Ytdadcbjhjmdheaa.SF
