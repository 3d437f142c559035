/-
  The walk of a law.
-/
import Derived.Test.YtdadcbjhjmdheaaWrap
import Derived.Test.YtdadcbjhjmdheaaAlikeW
import Derived.Test.YtdadcbjhjmdheaaFmtB
import Derived.Test.YtdadcbjhjmdheaaFrame
import Derived.Test.YtdadcbjhjmdheaaSumP
import Derived.Test.YtdadcbjhjmdheaaOrdK
import Derived.Test.YtdadcbjhjmdheaaNearP
import Derived.Test.YtdadcbjhjmdheaaSpecAdd
namespace Go.Proofs.Ytdadcbjhjmdheaa.SF
open Go.ChangeShapes Go.WideShapes Go.ChangeAt Go.RowKit
set_option linter.unusedVariables false
set_option maxRecDepth 100000 in
set_option maxHeartbeats 4000000 in
theorem fnNear (x : Nat) (y : Nat) (w : World) (hx : x < 18446744073709551616) (hy : y < 18446744073709551616) : Calls Try.prog 10 #[.int .u64 (x : Int), .int .u64 (y : Int)] w (LawPost w) := by
  have ex := mag_bits64 hx
  have ey := mag_bits64 hy
  have lx : mag64 x < 18446744073709551616 := by have := mag_lt64 x; omega
  have ly : mag64 y < 18446744073709551616 := by have := mag_lt64 y; omega
  have nx : neg64 (mag64 x) = false := neg_mag64 x
  have ny : neg64 (mag64 y) = false := neg_mag64 y
  generalize mag64 x = p at *
  generalize mag64 y = q at *
  have AX := fun w => faddS64_any p p w lx lx
  have AY := fun w => faddS64_any q q w ly ly
  have FX := fun w => ffin64_any p w lx
  have FY := fun w => ffin64_any q w ly
  cases fx : fin64 p
  · rw [fx] at FX
    generalize (!nanAdd64 p p) = bp at *
    generalize (if nanAdd64 p p then 0 else add64 p p) = tp at *
    generalize (!nanAdd64 q q) = bq at *
    generalize (if nanAdd64 q q then 0 else add64 q q) = tq at *
    have AX := Lib.hid AX
    have AY := Lib.hid AY
    have FX := Lib.hid FX
    clear hx hy lx ly nx ny fx FY
    have B0 := Lib.hid (Below.refl w.heap.size w)
    go_enter Try.func10, Try.ntmps10
    go_wp2_with fail
    refine (fmt64_any _).mono ?_
    rintro e u1 ⟨rfl, hb⟩
    have B1 := Lib.hid (below_trans' B0.out hb)
    clear hb
    have HS0 := Lib.hid (FB64.start0 u1)
    go_wp2_with fail
    refine (AX.out _).mono ?_
    rintro e v1 ⟨rfl, hb⟩
    have hs := FB64.step HS0.out hb
    have HS1 := Lib.hid hs
    clear hb
    obtain ⟨c0, c1, c2, c3, c4, c5, c6⟩ := hs
    clear c5 c6
    go_wp2_with fail
    refine (AY.out _).mono ?_
    rintro e v2 ⟨rfl, hb⟩
    have hs := FB64.step HS1.out hb
    have HS2 := Lib.hid hs
    clear hb c0 c1 c2 c3 c4
    obtain ⟨c0, c1, c2, c3, c4, c5, c6⟩ := hs
    clear c5 c6
    go_wp2_with fail
    refine (FX.out _).mono ?_
    rintro e v3 ⟨rfl, hb⟩
    have hs := FB64.step HS2.out hb
    have HS3 := Lib.hid hs
    clear hb c0 c1 c2 c3 c4
    obtain ⟨c0, c1, c2, c3, c4, c5, c6⟩ := hs
    clear c5 c6
    go_wp2_with fail
    go_ret
    exact ⟨rfl, below_trans' B1.out (FB64.below HS3.out)⟩
  · cases fy : fin64 q
    · rw [fx] at FX
      rw [fy] at FY
      generalize (!nanAdd64 p p) = bp at *
      generalize (if nanAdd64 p p then 0 else add64 p p) = tp at *
      generalize (!nanAdd64 q q) = bq at *
      generalize (if nanAdd64 q q then 0 else add64 q q) = tq at *
      have AX := Lib.hid AX
      have AY := Lib.hid AY
      have FX := Lib.hid FX
      have FY := Lib.hid FY
      clear hx hy lx ly nx ny fx fy
      have B0 := Lib.hid (Below.refl w.heap.size w)
      go_enter Try.func10, Try.ntmps10
      go_wp2_with fail
      refine (fmt64_any _).mono ?_
      rintro e u1 ⟨rfl, hb⟩
      have B1 := Lib.hid (below_trans' B0.out hb)
      clear hb
      have HS0 := Lib.hid (FB64.start0 u1)
      go_wp2_with fail
      refine (AX.out _).mono ?_
      rintro e v1 ⟨rfl, hb⟩
      have hs := FB64.step HS0.out hb
      have HS1 := Lib.hid hs
      clear hb
      obtain ⟨c0, c1, c2, c3, c4, c5, c6⟩ := hs
      clear c5 c6
      go_wp2_with fail
      refine (AY.out _).mono ?_
      rintro e v2 ⟨rfl, hb⟩
      have hs := FB64.step HS1.out hb
      have HS2 := Lib.hid hs
      clear hb c0 c1 c2 c3 c4
      obtain ⟨c0, c1, c2, c3, c4, c5, c6⟩ := hs
      clear c5 c6
      go_wp2_with fail
      refine (FX.out _).mono ?_
      rintro e v3 ⟨rfl, hb⟩
      have hs := FB64.step HS2.out hb
      have HS3 := Lib.hid hs
      clear hb c0 c1 c2 c3 c4
      obtain ⟨c0, c1, c2, c3, c4, c5, c6⟩ := hs
      clear c5 c6
      go_wp2_with fail
      refine (FY.out _).mono ?_
      rintro e v4 ⟨rfl, hb⟩
      have hs := FB64.step HS3.out hb
      have HS4 := Lib.hid hs
      clear hb c0 c1 c2 c3 c4
      obtain ⟨c0, c1, c2, c3, c4, c5, c6⟩ := hs
      clear c5 c6
      go_wp2_with fail
      go_ret
      exact ⟨rfl, below_trans' B1.out (FB64.below HS4.out)⟩
    · rw [fx] at FX
      rw [fy] at FY
      have lp := add_lt64 lx lx
      have lq := add_lt64 ly ly
      have np : nanAdd64 p p = false := nanAdd_same fx
      have nq' : nanAdd64 q q = false := nanAdd_same fy
      rw [np] at AX
      rw [nq'] at AY
      simp only [Bool.false_eq_true, if_false, Bool.not_false] at AX AY
      have C1 := fun w => fcmpS64_any p (add64 q q) w lx lq
      have C2 := fun w => fcmpS64_any q (add64 p p) w ly lp
      rw [cmpS_key64 lx lq] at C1
      rw [cmpS_key64 ly lp] at C2
      have D1 := twice_le fx fy nx ny
      have D2 := twice_le fy fx ny nx
      have LX := Lib.hid lx
      have LY := Lib.hid ly
      have key : ordI (key64 p) (key64 (add64 q q)) ≤ 0 → ordI (key64 q) (key64 (add64 p p)) ≤ 0 → add64 (add64 p (flip64 q)) q = p := fun h1 h2 => near_exact lx nx ny fx fy (D1 h1) (D2 h2)
      have SB := fun w => implSub64 p q w lx ly
      have AD := fun w => implAdd64 (add64 p (flip64 q)) q w (add_lt64 lx (flip_lt64 q)) ly
      have o1 : ordI (key64 p) (key64 (add64 q q)) = -1 ∨ ordI (key64 p) (key64 (add64 q q)) = 0 ∨ ordI (key64 p) (key64 (add64 q q)) = 1 := ord_cases _ _
      have o2 : ordI (key64 q) (key64 (add64 p p)) = -1 ∨ ordI (key64 q) (key64 (add64 p p)) = 0 ∨ ordI (key64 q) (key64 (add64 p p)) = 1 := ord_cases _ _
      generalize add64 (add64 p (flip64 q)) q = res at *
      generalize add64 p (flip64 q) = d at *
      generalize ordI (key64 p) (key64 (add64 q q)) = c1 at *
      generalize ordI (key64 q) (key64 (add64 p p)) = c2 at *
      generalize add64 p p = tp at *
      generalize add64 q q = tq at *
      clear hx hy lx ly nx ny fx fy D1 D2 lp lq np nq' LX LY
      by_cases h1 : c1 ≤ 0
      · by_cases h2 : c2 ≤ 0
        · obtain rfl := key h1 h2
          have d1 : decide (0 < c1) = false := decide_eq_false (by omega)
          have d2 : decide (0 < c2) = false := decide_eq_false (by omega)
          have AX := Lib.hid AX
          have AY := Lib.hid AY
          have FX := Lib.hid FX
          have FY := Lib.hid FY
          have C1 := Lib.hid C1
          have C2 := Lib.hid C2
          have SB := Lib.hid SB
          have AD := Lib.hid AD
          clear o1 o2 key
          have B0 := Lib.hid (Below.refl w.heap.size w)
          go_enter Try.func10, Try.ntmps10
          go_wp2_with fail
          refine (fmt64_any _).mono ?_
          rintro e u1 ⟨rfl, hb⟩
          have B1 := Lib.hid (below_trans' B0.out hb)
          clear hb
          have HS0 := Lib.hid (FB64.start0 u1)
          go_wp2_with fail
          refine (AX.out _).mono ?_
          rintro e v1 ⟨rfl, hb⟩
          have hs := FB64.step HS0.out hb
          have HS1 := Lib.hid hs
          clear hb
          obtain ⟨c0, c1, c2, c3, c4, c5, c6⟩ := hs
          clear c5 c6
          go_wp2_with fail
          refine (AY.out _).mono ?_
          rintro e v2 ⟨rfl, hb⟩
          have hs := FB64.step HS1.out hb
          have HS2 := Lib.hid hs
          clear hb c0 c1 c2 c3 c4
          obtain ⟨c0, c1, c2, c3, c4, c5, c6⟩ := hs
          clear c5 c6
          go_wp2_with fail
          refine (FX.out _).mono ?_
          rintro e v3 ⟨rfl, hb⟩
          have hs := FB64.step HS2.out hb
          have HS3 := Lib.hid hs
          clear hb c0 c1 c2 c3 c4
          obtain ⟨c0, c1, c2, c3, c4, c5, c6⟩ := hs
          clear c5 c6
          go_wp2_with fail
          refine (FY.out _).mono ?_
          rintro e v4 ⟨rfl, hb⟩
          have hs := FB64.step HS3.out hb
          have HS4 := Lib.hid hs
          clear hb c0 c1 c2 c3 c4
          obtain ⟨c0, c1, c2, c3, c4, c5, c6⟩ := hs
          clear c5 c6
          go_wp2_with fail
          refine (C1.out _).mono ?_
          rintro e v5 ⟨rfl, hb⟩
          have hs := FB64.step HS4.out hb
          have HS5 := Lib.hid hs
          clear hb c0 c1 c2 c3 c4
          obtain ⟨c0, c1, c2, c3, c4, c5, c6⟩ := hs
          clear c5 c6
          go_wp2_with fail
          refine (C2.out _).mono ?_
          rintro e v6 ⟨rfl, hb⟩
          have hs := FB64.step HS5.out hb
          have HS6 := Lib.hid hs
          clear hb c0 c1 c2 c3 c4
          obtain ⟨c0, c1, c2, c3, c4, c5, c6⟩ := hs
          clear c5 c6
          go_wp2_with fail
          refine (SB.out _).mono ?_
          rintro e w' ⟨rfl, rfl⟩
          go_wp2_with fail
          refine (AD.out _).mono ?_
          rintro e w' ⟨rfl, rfl⟩
          go_wp2_with fail
          go_ret
          exact ⟨rfl, below_trans' B1.out (FB64.below HS6.out)⟩
        · obtain rfl : c2 = 1 := by omega
          have d1 : decide (0 < c1) = false := decide_eq_false (by omega)
          have AX := Lib.hid AX
          have AY := Lib.hid AY
          have FX := Lib.hid FX
          have FY := Lib.hid FY
          have C1 := Lib.hid C1
          have C2 := Lib.hid C2
          clear o1 o2 key SB AD
          have B0 := Lib.hid (Below.refl w.heap.size w)
          go_enter Try.func10, Try.ntmps10
          go_wp2_with fail
          refine (fmt64_any _).mono ?_
          rintro e u1 ⟨rfl, hb⟩
          have B1 := Lib.hid (below_trans' B0.out hb)
          clear hb
          have HS0 := Lib.hid (FB64.start0 u1)
          go_wp2_with fail
          refine (AX.out _).mono ?_
          rintro e v1 ⟨rfl, hb⟩
          have hs := FB64.step HS0.out hb
          have HS1 := Lib.hid hs
          clear hb
          obtain ⟨c0, c1, c2, c3, c4, c5, c6⟩ := hs
          clear c5 c6
          go_wp2_with fail
          refine (AY.out _).mono ?_
          rintro e v2 ⟨rfl, hb⟩
          have hs := FB64.step HS1.out hb
          have HS2 := Lib.hid hs
          clear hb c0 c1 c2 c3 c4
          obtain ⟨c0, c1, c2, c3, c4, c5, c6⟩ := hs
          clear c5 c6
          go_wp2_with fail
          refine (FX.out _).mono ?_
          rintro e v3 ⟨rfl, hb⟩
          have hs := FB64.step HS2.out hb
          have HS3 := Lib.hid hs
          clear hb c0 c1 c2 c3 c4
          obtain ⟨c0, c1, c2, c3, c4, c5, c6⟩ := hs
          clear c5 c6
          go_wp2_with fail
          refine (FY.out _).mono ?_
          rintro e v4 ⟨rfl, hb⟩
          have hs := FB64.step HS3.out hb
          have HS4 := Lib.hid hs
          clear hb c0 c1 c2 c3 c4
          obtain ⟨c0, c1, c2, c3, c4, c5, c6⟩ := hs
          clear c5 c6
          go_wp2_with fail
          refine (C1.out _).mono ?_
          rintro e v5 ⟨rfl, hb⟩
          have hs := FB64.step HS4.out hb
          have HS5 := Lib.hid hs
          clear hb c0 c1 c2 c3 c4
          obtain ⟨c0, c1, c2, c3, c4, c5, c6⟩ := hs
          clear c5 c6
          go_wp2_with fail
          refine (C2.out _).mono ?_
          rintro e v6 ⟨rfl, hb⟩
          have hs := FB64.step HS5.out hb
          have HS6 := Lib.hid hs
          clear hb c0 c1 c2 c3 c4
          obtain ⟨c0, c1, c2, c3, c4, c5, c6⟩ := hs
          clear c5 c6
          go_wp2_with fail
          go_ret
          exact ⟨rfl, below_trans' B1.out (FB64.below HS6.out)⟩
      · obtain rfl : c1 = 1 := by omega
        have AX := Lib.hid AX
        have AY := Lib.hid AY
        have FX := Lib.hid FX
        have FY := Lib.hid FY
        have C1 := Lib.hid C1
        clear o1 o2 key SB AD C2
        have B0 := Lib.hid (Below.refl w.heap.size w)
        go_enter Try.func10, Try.ntmps10
        go_wp2_with fail
        refine (fmt64_any _).mono ?_
        rintro e u1 ⟨rfl, hb⟩
        have B1 := Lib.hid (below_trans' B0.out hb)
        clear hb
        have HS0 := Lib.hid (FB64.start0 u1)
        go_wp2_with fail
        refine (AX.out _).mono ?_
        rintro e v1 ⟨rfl, hb⟩
        have hs := FB64.step HS0.out hb
        have HS1 := Lib.hid hs
        clear hb
        obtain ⟨c0, c1, c2, c3, c4, c5, c6⟩ := hs
        clear c5 c6
        go_wp2_with fail
        refine (AY.out _).mono ?_
        rintro e v2 ⟨rfl, hb⟩
        have hs := FB64.step HS1.out hb
        have HS2 := Lib.hid hs
        clear hb c0 c1 c2 c3 c4
        obtain ⟨c0, c1, c2, c3, c4, c5, c6⟩ := hs
        clear c5 c6
        go_wp2_with fail
        refine (FX.out _).mono ?_
        rintro e v3 ⟨rfl, hb⟩
        have hs := FB64.step HS2.out hb
        have HS3 := Lib.hid hs
        clear hb c0 c1 c2 c3 c4
        obtain ⟨c0, c1, c2, c3, c4, c5, c6⟩ := hs
        clear c5 c6
        go_wp2_with fail
        refine (FY.out _).mono ?_
        rintro e v4 ⟨rfl, hb⟩
        have hs := FB64.step HS3.out hb
        have HS4 := Lib.hid hs
        clear hb c0 c1 c2 c3 c4
        obtain ⟨c0, c1, c2, c3, c4, c5, c6⟩ := hs
        clear c5 c6
        go_wp2_with fail
        refine (C1.out _).mono ?_
        rintro e v5 ⟨rfl, hb⟩
        have hs := FB64.step HS4.out hb
        have HS5 := Lib.hid hs
        clear hb c0 c1 c2 c3 c4
        obtain ⟨c0, c1, c2, c3, c4, c5, c6⟩ := hs
        clear c5 c6
        go_wp2_with fail
        go_ret
        exact ⟨rfl, below_trans' B1.out (FB64.below HS5.out)⟩
end Go.Proofs.Ytdadcbjhjmdheaa.SF
