/-
  The walk of a law.
-/
import Derived.Test.YtlagofjbgjhenaaWrap
import Derived.Test.YtlagofjbgjhenaaAlikeW
import Derived.Test.YtlagofjbgjhenaaFmtB
import Derived.Test.YtlagofjbgjhenaaFrame
import Derived.Test.YtlagofjbgjhenaaAlg
namespace Go.Proofs.Ytlagofjbgjhenaa.SF
open Go.ChangeShapes Go.WideShapes Go.ChangeAt Go.RowKit
set_option linter.unusedVariables false
set_option maxRecDepth 100000 in
set_option maxHeartbeats 4000000 in
theorem fnSigns64 (x : Nat) (y : Nat) (w : World) (hx : x < 18446744073709551616) (hy : y < 18446744073709551616) : Calls Try.prog 3 #[.int .u64 (x : Int), .int .u64 (y : Int)] w (LawPost w) := by
  have lx := flip_lt64 x
  have ly := flip_lt64 y
  have fx := xor_flip164 hx
  have fy := xor_flip164 hy
  have lp := mul_lt64 x y
  have lq := div_lt64 x y
  have ls := add_lt64 hx hy
  have fp := xor_flip164 lp
  have fq := xor_flip164 lq
  have fs := xor_flip164 ls
  have M0 := fun w => implMul64 x y w hx hy
  have D0 := fun w => implDiv64 x y w hx hy
  have A0 := fun w => implAdd64 x y w hx hy
  have M1 := fun w => implMul64 (flip64 x) y w lx hy
  have M2 := fun w => implMul64 x (flip64 y) w hx ly
  have D1 := fun w => implDiv64 (flip64 x) y w lx hy
  have D2 := fun w => implDiv64 x (flip64 y) w hx ly
  have A1 := fun w => implAdd64 (flip64 x) (flip64 y) w lx ly
  have NP := fun w => fnan64_any (mul64 x y) w lp
  have NQ := fun w => fnan64_any (div64 x y) w lq
  have NS := fun w => fnan64_any (add64 x y) w ls
  have ZS := fun w => fzero64_any (add64 x y) w ls
  cases hp : isNaN64 (mul64 x y)
  · cases hq : isNaN64 (div64 x y)
    · cases hs : isNaN64 (add64 x y)
      · cases hz : isZero64 (add64 x y)
        · skip
          rw [hp] at NP
          rw [mul_flipl64 hp] at M1
          rw [mul_flipr64 hp] at M2
          rw [hq] at NQ
          rw [div_flipl64 hq] at D1
          rw [div_flipr64 hq] at D2
          rw [hs] at NS
          rw [hz] at ZS
          rw [add_flip264 hs hz] at A1
          generalize flip64 (mul64 x y) = fp' at *
          generalize flip64 (div64 x y) = fq' at *
          generalize flip64 (add64 x y) = fs' at *
          generalize mul64 x y = p at *
          generalize div64 x y = q at *
          generalize add64 x y = s at *
          generalize flip64 x = gx at *
          generalize flip64 y = gy at *
          have M0 := Lib.hid M0
          have D0 := Lib.hid D0
          have A0 := Lib.hid A0
          have M1 := Lib.hid M1
          have M2 := Lib.hid M2
          have D1 := Lib.hid D1
          have D2 := Lib.hid D2
          have A1 := Lib.hid A1
          have NP := Lib.hid NP
          have NQ := Lib.hid NQ
          have NS := Lib.hid NS
          have ZS := Lib.hid ZS
          clear lx ly lp lq ls hx hy hp hq hs hz
          have B0 := Lib.hid (Below.refl w.heap.size w)
          go_enter Try.func3, Try.ntmps3
          go_wp2_with fail
          refine (M0.out _).mono ?_
          rintro e w' ⟨rfl, rfl⟩
          go_wp2_with fail
          refine (D0.out _).mono ?_
          rintro e w' ⟨rfl, rfl⟩
          go_wp2_with fail
          refine (fmt64_any _).mono ?_
          rintro e u1 ⟨rfl, hb⟩
          have B1 := Lib.hid (below_trans' B0.out hb)
          clear hb
          have HS0 := Lib.hid (FB64.start0 u1)
          go_wp2_with fail
          refine (NP.out _).mono ?_
          rintro e v1 ⟨rfl, hb⟩
          have hs := FB64.step HS0.out hb
          have HS1 := Lib.hid hs
          clear hb
          obtain ⟨c0, c1, c2, c3, c4, c5, c6⟩ := hs
          clear c5 c6
          go_wp2_with fail
          refine (M1.out _).mono ?_
          rintro e w' ⟨rfl, rfl⟩
          go_wp2_with fail
          refine (M2.out _).mono ?_
          rintro e w' ⟨rfl, rfl⟩
          go_wp2_with fail
          refine (NQ.out _).mono ?_
          rintro e v2 ⟨rfl, hb⟩
          have hs := FB64.step HS1.out hb
          have HS2 := Lib.hid hs
          clear hb c0 c1 c2 c3 c4
          obtain ⟨c0, c1, c2, c3, c4, c5, c6⟩ := hs
          clear c5 c6
          go_wp2_with fail
          refine (D1.out _).mono ?_
          rintro e w' ⟨rfl, rfl⟩
          go_wp2_with fail
          refine (D2.out _).mono ?_
          rintro e w' ⟨rfl, rfl⟩
          go_wp2_with fail
          refine (A0.out _).mono ?_
          rintro e w' ⟨rfl, rfl⟩
          go_wp2_with fail
          refine (NS.out _).mono ?_
          rintro e v3 ⟨rfl, hb⟩
          have hs := FB64.step HS2.out hb
          have HS3 := Lib.hid hs
          clear hb c0 c1 c2 c3 c4
          obtain ⟨c0, c1, c2, c3, c4, c5, c6⟩ := hs
          clear c5 c6
          go_wp2_with fail
          refine (ZS.out _).mono ?_
          rintro e v4 ⟨rfl, hb⟩
          have hs := FB64.step HS3.out hb
          have HS4 := Lib.hid hs
          clear hb c0 c1 c2 c3 c4
          obtain ⟨c0, c1, c2, c3, c4, c5, c6⟩ := hs
          clear c5 c6
          go_wp2_with fail
          refine (A1.out _).mono ?_
          rintro e w' ⟨rfl, rfl⟩
          go_wp2_with fail
          go_ret
          exact ⟨rfl, below_trans' B1.out (FB64.below HS4.out)⟩
        · skip
          rw [hp] at NP
          rw [mul_flipl64 hp] at M1
          rw [mul_flipr64 hp] at M2
          rw [hq] at NQ
          rw [div_flipl64 hq] at D1
          rw [div_flipr64 hq] at D2
          rw [hs] at NS
          rw [hz] at ZS
          generalize add64 (flip64 x) (flip64 y) = a1 at *
          generalize flip64 (mul64 x y) = fp' at *
          generalize flip64 (div64 x y) = fq' at *
          generalize flip64 (add64 x y) = fs' at *
          generalize mul64 x y = p at *
          generalize div64 x y = q at *
          generalize add64 x y = s at *
          generalize flip64 x = gx at *
          generalize flip64 y = gy at *
          have M0 := Lib.hid M0
          have D0 := Lib.hid D0
          have A0 := Lib.hid A0
          have M1 := Lib.hid M1
          have M2 := Lib.hid M2
          have D1 := Lib.hid D1
          have D2 := Lib.hid D2
          have A1 := Lib.hid A1
          have NP := Lib.hid NP
          have NQ := Lib.hid NQ
          have NS := Lib.hid NS
          have ZS := Lib.hid ZS
          clear lx ly lp lq ls hx hy hp hq hs hz
          have B0 := Lib.hid (Below.refl w.heap.size w)
          go_enter Try.func3, Try.ntmps3
          go_wp2_with fail
          refine (M0.out _).mono ?_
          rintro e w' ⟨rfl, rfl⟩
          go_wp2_with fail
          refine (D0.out _).mono ?_
          rintro e w' ⟨rfl, rfl⟩
          go_wp2_with fail
          refine (fmt64_any _).mono ?_
          rintro e u1 ⟨rfl, hb⟩
          have B1 := Lib.hid (below_trans' B0.out hb)
          clear hb
          have HS0 := Lib.hid (FB64.start0 u1)
          go_wp2_with fail
          refine (NP.out _).mono ?_
          rintro e v1 ⟨rfl, hb⟩
          have hs := FB64.step HS0.out hb
          have HS1 := Lib.hid hs
          clear hb
          obtain ⟨c0, c1, c2, c3, c4, c5, c6⟩ := hs
          clear c5 c6
          go_wp2_with fail
          refine (M1.out _).mono ?_
          rintro e w' ⟨rfl, rfl⟩
          go_wp2_with fail
          refine (M2.out _).mono ?_
          rintro e w' ⟨rfl, rfl⟩
          go_wp2_with fail
          refine (NQ.out _).mono ?_
          rintro e v2 ⟨rfl, hb⟩
          have hs := FB64.step HS1.out hb
          have HS2 := Lib.hid hs
          clear hb c0 c1 c2 c3 c4
          obtain ⟨c0, c1, c2, c3, c4, c5, c6⟩ := hs
          clear c5 c6
          go_wp2_with fail
          refine (D1.out _).mono ?_
          rintro e w' ⟨rfl, rfl⟩
          go_wp2_with fail
          refine (D2.out _).mono ?_
          rintro e w' ⟨rfl, rfl⟩
          go_wp2_with fail
          refine (A0.out _).mono ?_
          rintro e w' ⟨rfl, rfl⟩
          go_wp2_with fail
          refine (NS.out _).mono ?_
          rintro e v3 ⟨rfl, hb⟩
          have hs := FB64.step HS2.out hb
          have HS3 := Lib.hid hs
          clear hb c0 c1 c2 c3 c4
          obtain ⟨c0, c1, c2, c3, c4, c5, c6⟩ := hs
          clear c5 c6
          go_wp2_with fail
          refine (ZS.out _).mono ?_
          rintro e v4 ⟨rfl, hb⟩
          have hs := FB64.step HS3.out hb
          have HS4 := Lib.hid hs
          clear hb c0 c1 c2 c3 c4
          obtain ⟨c0, c1, c2, c3, c4, c5, c6⟩ := hs
          clear c5 c6
          go_wp2_with fail
          go_ret
          exact ⟨rfl, below_trans' B1.out (FB64.below HS4.out)⟩
      · skip
        rw [hp] at NP
        rw [mul_flipl64 hp] at M1
        rw [mul_flipr64 hp] at M2
        rw [hq] at NQ
        rw [div_flipl64 hq] at D1
        rw [div_flipr64 hq] at D2
        rw [hs] at NS
        generalize add64 (flip64 x) (flip64 y) = a1 at *
        generalize flip64 (mul64 x y) = fp' at *
        generalize flip64 (div64 x y) = fq' at *
        generalize flip64 (add64 x y) = fs' at *
        generalize mul64 x y = p at *
        generalize div64 x y = q at *
        generalize add64 x y = s at *
        generalize flip64 x = gx at *
        generalize flip64 y = gy at *
        have M0 := Lib.hid M0
        have D0 := Lib.hid D0
        have A0 := Lib.hid A0
        have M1 := Lib.hid M1
        have M2 := Lib.hid M2
        have D1 := Lib.hid D1
        have D2 := Lib.hid D2
        have A1 := Lib.hid A1
        have NP := Lib.hid NP
        have NQ := Lib.hid NQ
        have NS := Lib.hid NS
        have ZS := Lib.hid ZS
        clear lx ly lp lq ls hx hy hp hq hs
        have B0 := Lib.hid (Below.refl w.heap.size w)
        go_enter Try.func3, Try.ntmps3
        go_wp2_with fail
        refine (M0.out _).mono ?_
        rintro e w' ⟨rfl, rfl⟩
        go_wp2_with fail
        refine (D0.out _).mono ?_
        rintro e w' ⟨rfl, rfl⟩
        go_wp2_with fail
        refine (fmt64_any _).mono ?_
        rintro e u1 ⟨rfl, hb⟩
        have B1 := Lib.hid (below_trans' B0.out hb)
        clear hb
        have HS0 := Lib.hid (FB64.start0 u1)
        go_wp2_with fail
        refine (NP.out _).mono ?_
        rintro e v1 ⟨rfl, hb⟩
        have hs := FB64.step HS0.out hb
        have HS1 := Lib.hid hs
        clear hb
        obtain ⟨c0, c1, c2, c3, c4, c5, c6⟩ := hs
        clear c5 c6
        go_wp2_with fail
        refine (M1.out _).mono ?_
        rintro e w' ⟨rfl, rfl⟩
        go_wp2_with fail
        refine (M2.out _).mono ?_
        rintro e w' ⟨rfl, rfl⟩
        go_wp2_with fail
        refine (NQ.out _).mono ?_
        rintro e v2 ⟨rfl, hb⟩
        have hs := FB64.step HS1.out hb
        have HS2 := Lib.hid hs
        clear hb c0 c1 c2 c3 c4
        obtain ⟨c0, c1, c2, c3, c4, c5, c6⟩ := hs
        clear c5 c6
        go_wp2_with fail
        refine (D1.out _).mono ?_
        rintro e w' ⟨rfl, rfl⟩
        go_wp2_with fail
        refine (D2.out _).mono ?_
        rintro e w' ⟨rfl, rfl⟩
        go_wp2_with fail
        refine (A0.out _).mono ?_
        rintro e w' ⟨rfl, rfl⟩
        go_wp2_with fail
        refine (NS.out _).mono ?_
        rintro e v3 ⟨rfl, hb⟩
        have hs := FB64.step HS2.out hb
        have HS3 := Lib.hid hs
        clear hb c0 c1 c2 c3 c4
        obtain ⟨c0, c1, c2, c3, c4, c5, c6⟩ := hs
        clear c5 c6
        go_wp2_with fail
        go_ret
        exact ⟨rfl, below_trans' B1.out (FB64.below HS3.out)⟩
    · cases hs : isNaN64 (add64 x y)
      · cases hz : isZero64 (add64 x y)
        · skip
          rw [hp] at NP
          rw [mul_flipl64 hp] at M1
          rw [mul_flipr64 hp] at M2
          rw [hq] at NQ
          generalize div64 (flip64 x) y = d1 at *
          generalize div64 x (flip64 y) = d2 at *
          rw [hs] at NS
          rw [hz] at ZS
          rw [add_flip264 hs hz] at A1
          generalize flip64 (mul64 x y) = fp' at *
          generalize flip64 (div64 x y) = fq' at *
          generalize flip64 (add64 x y) = fs' at *
          generalize mul64 x y = p at *
          generalize div64 x y = q at *
          generalize add64 x y = s at *
          generalize flip64 x = gx at *
          generalize flip64 y = gy at *
          have M0 := Lib.hid M0
          have D0 := Lib.hid D0
          have A0 := Lib.hid A0
          have M1 := Lib.hid M1
          have M2 := Lib.hid M2
          have D1 := Lib.hid D1
          have D2 := Lib.hid D2
          have A1 := Lib.hid A1
          have NP := Lib.hid NP
          have NQ := Lib.hid NQ
          have NS := Lib.hid NS
          have ZS := Lib.hid ZS
          clear lx ly lp lq ls hx hy hp hq hs hz
          have B0 := Lib.hid (Below.refl w.heap.size w)
          go_enter Try.func3, Try.ntmps3
          go_wp2_with fail
          refine (M0.out _).mono ?_
          rintro e w' ⟨rfl, rfl⟩
          go_wp2_with fail
          refine (D0.out _).mono ?_
          rintro e w' ⟨rfl, rfl⟩
          go_wp2_with fail
          refine (fmt64_any _).mono ?_
          rintro e u1 ⟨rfl, hb⟩
          have B1 := Lib.hid (below_trans' B0.out hb)
          clear hb
          have HS0 := Lib.hid (FB64.start0 u1)
          go_wp2_with fail
          refine (NP.out _).mono ?_
          rintro e v1 ⟨rfl, hb⟩
          have hs := FB64.step HS0.out hb
          have HS1 := Lib.hid hs
          clear hb
          obtain ⟨c0, c1, c2, c3, c4, c5, c6⟩ := hs
          clear c5 c6
          go_wp2_with fail
          refine (M1.out _).mono ?_
          rintro e w' ⟨rfl, rfl⟩
          go_wp2_with fail
          refine (M2.out _).mono ?_
          rintro e w' ⟨rfl, rfl⟩
          go_wp2_with fail
          refine (NQ.out _).mono ?_
          rintro e v2 ⟨rfl, hb⟩
          have hs := FB64.step HS1.out hb
          have HS2 := Lib.hid hs
          clear hb c0 c1 c2 c3 c4
          obtain ⟨c0, c1, c2, c3, c4, c5, c6⟩ := hs
          clear c5 c6
          go_wp2_with fail
          refine (A0.out _).mono ?_
          rintro e w' ⟨rfl, rfl⟩
          go_wp2_with fail
          refine (NS.out _).mono ?_
          rintro e v3 ⟨rfl, hb⟩
          have hs := FB64.step HS2.out hb
          have HS3 := Lib.hid hs
          clear hb c0 c1 c2 c3 c4
          obtain ⟨c0, c1, c2, c3, c4, c5, c6⟩ := hs
          clear c5 c6
          go_wp2_with fail
          refine (ZS.out _).mono ?_
          rintro e v4 ⟨rfl, hb⟩
          have hs := FB64.step HS3.out hb
          have HS4 := Lib.hid hs
          clear hb c0 c1 c2 c3 c4
          obtain ⟨c0, c1, c2, c3, c4, c5, c6⟩ := hs
          clear c5 c6
          go_wp2_with fail
          refine (A1.out _).mono ?_
          rintro e w' ⟨rfl, rfl⟩
          go_wp2_with fail
          go_ret
          exact ⟨rfl, below_trans' B1.out (FB64.below HS4.out)⟩
        · skip
          rw [hp] at NP
          rw [mul_flipl64 hp] at M1
          rw [mul_flipr64 hp] at M2
          rw [hq] at NQ
          generalize div64 (flip64 x) y = d1 at *
          generalize div64 x (flip64 y) = d2 at *
          rw [hs] at NS
          rw [hz] at ZS
          generalize add64 (flip64 x) (flip64 y) = a1 at *
          generalize flip64 (mul64 x y) = fp' at *
          generalize flip64 (div64 x y) = fq' at *
          generalize flip64 (add64 x y) = fs' at *
          generalize mul64 x y = p at *
          generalize div64 x y = q at *
          generalize add64 x y = s at *
          generalize flip64 x = gx at *
          generalize flip64 y = gy at *
          have M0 := Lib.hid M0
          have D0 := Lib.hid D0
          have A0 := Lib.hid A0
          have M1 := Lib.hid M1
          have M2 := Lib.hid M2
          have D1 := Lib.hid D1
          have D2 := Lib.hid D2
          have A1 := Lib.hid A1
          have NP := Lib.hid NP
          have NQ := Lib.hid NQ
          have NS := Lib.hid NS
          have ZS := Lib.hid ZS
          clear lx ly lp lq ls hx hy hp hq hs hz
          have B0 := Lib.hid (Below.refl w.heap.size w)
          go_enter Try.func3, Try.ntmps3
          go_wp2_with fail
          refine (M0.out _).mono ?_
          rintro e w' ⟨rfl, rfl⟩
          go_wp2_with fail
          refine (D0.out _).mono ?_
          rintro e w' ⟨rfl, rfl⟩
          go_wp2_with fail
          refine (fmt64_any _).mono ?_
          rintro e u1 ⟨rfl, hb⟩
          have B1 := Lib.hid (below_trans' B0.out hb)
          clear hb
          have HS0 := Lib.hid (FB64.start0 u1)
          go_wp2_with fail
          refine (NP.out _).mono ?_
          rintro e v1 ⟨rfl, hb⟩
          have hs := FB64.step HS0.out hb
          have HS1 := Lib.hid hs
          clear hb
          obtain ⟨c0, c1, c2, c3, c4, c5, c6⟩ := hs
          clear c5 c6
          go_wp2_with fail
          refine (M1.out _).mono ?_
          rintro e w' ⟨rfl, rfl⟩
          go_wp2_with fail
          refine (M2.out _).mono ?_
          rintro e w' ⟨rfl, rfl⟩
          go_wp2_with fail
          refine (NQ.out _).mono ?_
          rintro e v2 ⟨rfl, hb⟩
          have hs := FB64.step HS1.out hb
          have HS2 := Lib.hid hs
          clear hb c0 c1 c2 c3 c4
          obtain ⟨c0, c1, c2, c3, c4, c5, c6⟩ := hs
          clear c5 c6
          go_wp2_with fail
          refine (A0.out _).mono ?_
          rintro e w' ⟨rfl, rfl⟩
          go_wp2_with fail
          refine (NS.out _).mono ?_
          rintro e v3 ⟨rfl, hb⟩
          have hs := FB64.step HS2.out hb
          have HS3 := Lib.hid hs
          clear hb c0 c1 c2 c3 c4
          obtain ⟨c0, c1, c2, c3, c4, c5, c6⟩ := hs
          clear c5 c6
          go_wp2_with fail
          refine (ZS.out _).mono ?_
          rintro e v4 ⟨rfl, hb⟩
          have hs := FB64.step HS3.out hb
          have HS4 := Lib.hid hs
          clear hb c0 c1 c2 c3 c4
          obtain ⟨c0, c1, c2, c3, c4, c5, c6⟩ := hs
          clear c5 c6
          go_wp2_with fail
          go_ret
          exact ⟨rfl, below_trans' B1.out (FB64.below HS4.out)⟩
      · skip
        rw [hp] at NP
        rw [mul_flipl64 hp] at M1
        rw [mul_flipr64 hp] at M2
        rw [hq] at NQ
        generalize div64 (flip64 x) y = d1 at *
        generalize div64 x (flip64 y) = d2 at *
        rw [hs] at NS
        generalize add64 (flip64 x) (flip64 y) = a1 at *
        generalize flip64 (mul64 x y) = fp' at *
        generalize flip64 (div64 x y) = fq' at *
        generalize flip64 (add64 x y) = fs' at *
        generalize mul64 x y = p at *
        generalize div64 x y = q at *
        generalize add64 x y = s at *
        generalize flip64 x = gx at *
        generalize flip64 y = gy at *
        have M0 := Lib.hid M0
        have D0 := Lib.hid D0
        have A0 := Lib.hid A0
        have M1 := Lib.hid M1
        have M2 := Lib.hid M2
        have D1 := Lib.hid D1
        have D2 := Lib.hid D2
        have A1 := Lib.hid A1
        have NP := Lib.hid NP
        have NQ := Lib.hid NQ
        have NS := Lib.hid NS
        have ZS := Lib.hid ZS
        clear lx ly lp lq ls hx hy hp hq hs
        have B0 := Lib.hid (Below.refl w.heap.size w)
        go_enter Try.func3, Try.ntmps3
        go_wp2_with fail
        refine (M0.out _).mono ?_
        rintro e w' ⟨rfl, rfl⟩
        go_wp2_with fail
        refine (D0.out _).mono ?_
        rintro e w' ⟨rfl, rfl⟩
        go_wp2_with fail
        refine (fmt64_any _).mono ?_
        rintro e u1 ⟨rfl, hb⟩
        have B1 := Lib.hid (below_trans' B0.out hb)
        clear hb
        have HS0 := Lib.hid (FB64.start0 u1)
        go_wp2_with fail
        refine (NP.out _).mono ?_
        rintro e v1 ⟨rfl, hb⟩
        have hs := FB64.step HS0.out hb
        have HS1 := Lib.hid hs
        clear hb
        obtain ⟨c0, c1, c2, c3, c4, c5, c6⟩ := hs
        clear c5 c6
        go_wp2_with fail
        refine (M1.out _).mono ?_
        rintro e w' ⟨rfl, rfl⟩
        go_wp2_with fail
        refine (M2.out _).mono ?_
        rintro e w' ⟨rfl, rfl⟩
        go_wp2_with fail
        refine (NQ.out _).mono ?_
        rintro e v2 ⟨rfl, hb⟩
        have hs := FB64.step HS1.out hb
        have HS2 := Lib.hid hs
        clear hb c0 c1 c2 c3 c4
        obtain ⟨c0, c1, c2, c3, c4, c5, c6⟩ := hs
        clear c5 c6
        go_wp2_with fail
        refine (A0.out _).mono ?_
        rintro e w' ⟨rfl, rfl⟩
        go_wp2_with fail
        refine (NS.out _).mono ?_
        rintro e v3 ⟨rfl, hb⟩
        have hs := FB64.step HS2.out hb
        have HS3 := Lib.hid hs
        clear hb c0 c1 c2 c3 c4
        obtain ⟨c0, c1, c2, c3, c4, c5, c6⟩ := hs
        clear c5 c6
        go_wp2_with fail
        go_ret
        exact ⟨rfl, below_trans' B1.out (FB64.below HS3.out)⟩
  · cases hq : isNaN64 (div64 x y)
    · cases hs : isNaN64 (add64 x y)
      · cases hz : isZero64 (add64 x y)
        · skip
          rw [hp] at NP
          generalize mul64 (flip64 x) y = m1 at *
          generalize mul64 x (flip64 y) = m2 at *
          rw [hq] at NQ
          rw [div_flipl64 hq] at D1
          rw [div_flipr64 hq] at D2
          rw [hs] at NS
          rw [hz] at ZS
          rw [add_flip264 hs hz] at A1
          generalize flip64 (mul64 x y) = fp' at *
          generalize flip64 (div64 x y) = fq' at *
          generalize flip64 (add64 x y) = fs' at *
          generalize mul64 x y = p at *
          generalize div64 x y = q at *
          generalize add64 x y = s at *
          generalize flip64 x = gx at *
          generalize flip64 y = gy at *
          have M0 := Lib.hid M0
          have D0 := Lib.hid D0
          have A0 := Lib.hid A0
          have M1 := Lib.hid M1
          have M2 := Lib.hid M2
          have D1 := Lib.hid D1
          have D2 := Lib.hid D2
          have A1 := Lib.hid A1
          have NP := Lib.hid NP
          have NQ := Lib.hid NQ
          have NS := Lib.hid NS
          have ZS := Lib.hid ZS
          clear lx ly lp lq ls hx hy hp hq hs hz
          have B0 := Lib.hid (Below.refl w.heap.size w)
          go_enter Try.func3, Try.ntmps3
          go_wp2_with fail
          refine (M0.out _).mono ?_
          rintro e w' ⟨rfl, rfl⟩
          go_wp2_with fail
          refine (D0.out _).mono ?_
          rintro e w' ⟨rfl, rfl⟩
          go_wp2_with fail
          refine (fmt64_any _).mono ?_
          rintro e u1 ⟨rfl, hb⟩
          have B1 := Lib.hid (below_trans' B0.out hb)
          clear hb
          have HS0 := Lib.hid (FB64.start0 u1)
          go_wp2_with fail
          refine (NP.out _).mono ?_
          rintro e v1 ⟨rfl, hb⟩
          have hs := FB64.step HS0.out hb
          have HS1 := Lib.hid hs
          clear hb
          obtain ⟨c0, c1, c2, c3, c4, c5, c6⟩ := hs
          clear c5 c6
          go_wp2_with fail
          refine (NQ.out _).mono ?_
          rintro e v2 ⟨rfl, hb⟩
          have hs := FB64.step HS1.out hb
          have HS2 := Lib.hid hs
          clear hb c0 c1 c2 c3 c4
          obtain ⟨c0, c1, c2, c3, c4, c5, c6⟩ := hs
          clear c5 c6
          go_wp2_with fail
          refine (D1.out _).mono ?_
          rintro e w' ⟨rfl, rfl⟩
          go_wp2_with fail
          refine (D2.out _).mono ?_
          rintro e w' ⟨rfl, rfl⟩
          go_wp2_with fail
          refine (A0.out _).mono ?_
          rintro e w' ⟨rfl, rfl⟩
          go_wp2_with fail
          refine (NS.out _).mono ?_
          rintro e v3 ⟨rfl, hb⟩
          have hs := FB64.step HS2.out hb
          have HS3 := Lib.hid hs
          clear hb c0 c1 c2 c3 c4
          obtain ⟨c0, c1, c2, c3, c4, c5, c6⟩ := hs
          clear c5 c6
          go_wp2_with fail
          refine (ZS.out _).mono ?_
          rintro e v4 ⟨rfl, hb⟩
          have hs := FB64.step HS3.out hb
          have HS4 := Lib.hid hs
          clear hb c0 c1 c2 c3 c4
          obtain ⟨c0, c1, c2, c3, c4, c5, c6⟩ := hs
          clear c5 c6
          go_wp2_with fail
          refine (A1.out _).mono ?_
          rintro e w' ⟨rfl, rfl⟩
          go_wp2_with fail
          go_ret
          exact ⟨rfl, below_trans' B1.out (FB64.below HS4.out)⟩
        · skip
          rw [hp] at NP
          generalize mul64 (flip64 x) y = m1 at *
          generalize mul64 x (flip64 y) = m2 at *
          rw [hq] at NQ
          rw [div_flipl64 hq] at D1
          rw [div_flipr64 hq] at D2
          rw [hs] at NS
          rw [hz] at ZS
          generalize add64 (flip64 x) (flip64 y) = a1 at *
          generalize flip64 (mul64 x y) = fp' at *
          generalize flip64 (div64 x y) = fq' at *
          generalize flip64 (add64 x y) = fs' at *
          generalize mul64 x y = p at *
          generalize div64 x y = q at *
          generalize add64 x y = s at *
          generalize flip64 x = gx at *
          generalize flip64 y = gy at *
          have M0 := Lib.hid M0
          have D0 := Lib.hid D0
          have A0 := Lib.hid A0
          have M1 := Lib.hid M1
          have M2 := Lib.hid M2
          have D1 := Lib.hid D1
          have D2 := Lib.hid D2
          have A1 := Lib.hid A1
          have NP := Lib.hid NP
          have NQ := Lib.hid NQ
          have NS := Lib.hid NS
          have ZS := Lib.hid ZS
          clear lx ly lp lq ls hx hy hp hq hs hz
          have B0 := Lib.hid (Below.refl w.heap.size w)
          go_enter Try.func3, Try.ntmps3
          go_wp2_with fail
          refine (M0.out _).mono ?_
          rintro e w' ⟨rfl, rfl⟩
          go_wp2_with fail
          refine (D0.out _).mono ?_
          rintro e w' ⟨rfl, rfl⟩
          go_wp2_with fail
          refine (fmt64_any _).mono ?_
          rintro e u1 ⟨rfl, hb⟩
          have B1 := Lib.hid (below_trans' B0.out hb)
          clear hb
          have HS0 := Lib.hid (FB64.start0 u1)
          go_wp2_with fail
          refine (NP.out _).mono ?_
          rintro e v1 ⟨rfl, hb⟩
          have hs := FB64.step HS0.out hb
          have HS1 := Lib.hid hs
          clear hb
          obtain ⟨c0, c1, c2, c3, c4, c5, c6⟩ := hs
          clear c5 c6
          go_wp2_with fail
          refine (NQ.out _).mono ?_
          rintro e v2 ⟨rfl, hb⟩
          have hs := FB64.step HS1.out hb
          have HS2 := Lib.hid hs
          clear hb c0 c1 c2 c3 c4
          obtain ⟨c0, c1, c2, c3, c4, c5, c6⟩ := hs
          clear c5 c6
          go_wp2_with fail
          refine (D1.out _).mono ?_
          rintro e w' ⟨rfl, rfl⟩
          go_wp2_with fail
          refine (D2.out _).mono ?_
          rintro e w' ⟨rfl, rfl⟩
          go_wp2_with fail
          refine (A0.out _).mono ?_
          rintro e w' ⟨rfl, rfl⟩
          go_wp2_with fail
          refine (NS.out _).mono ?_
          rintro e v3 ⟨rfl, hb⟩
          have hs := FB64.step HS2.out hb
          have HS3 := Lib.hid hs
          clear hb c0 c1 c2 c3 c4
          obtain ⟨c0, c1, c2, c3, c4, c5, c6⟩ := hs
          clear c5 c6
          go_wp2_with fail
          refine (ZS.out _).mono ?_
          rintro e v4 ⟨rfl, hb⟩
          have hs := FB64.step HS3.out hb
          have HS4 := Lib.hid hs
          clear hb c0 c1 c2 c3 c4
          obtain ⟨c0, c1, c2, c3, c4, c5, c6⟩ := hs
          clear c5 c6
          go_wp2_with fail
          go_ret
          exact ⟨rfl, below_trans' B1.out (FB64.below HS4.out)⟩
      · skip
        rw [hp] at NP
        generalize mul64 (flip64 x) y = m1 at *
        generalize mul64 x (flip64 y) = m2 at *
        rw [hq] at NQ
        rw [div_flipl64 hq] at D1
        rw [div_flipr64 hq] at D2
        rw [hs] at NS
        generalize add64 (flip64 x) (flip64 y) = a1 at *
        generalize flip64 (mul64 x y) = fp' at *
        generalize flip64 (div64 x y) = fq' at *
        generalize flip64 (add64 x y) = fs' at *
        generalize mul64 x y = p at *
        generalize div64 x y = q at *
        generalize add64 x y = s at *
        generalize flip64 x = gx at *
        generalize flip64 y = gy at *
        have M0 := Lib.hid M0
        have D0 := Lib.hid D0
        have A0 := Lib.hid A0
        have M1 := Lib.hid M1
        have M2 := Lib.hid M2
        have D1 := Lib.hid D1
        have D2 := Lib.hid D2
        have A1 := Lib.hid A1
        have NP := Lib.hid NP
        have NQ := Lib.hid NQ
        have NS := Lib.hid NS
        have ZS := Lib.hid ZS
        clear lx ly lp lq ls hx hy hp hq hs
        have B0 := Lib.hid (Below.refl w.heap.size w)
        go_enter Try.func3, Try.ntmps3
        go_wp2_with fail
        refine (M0.out _).mono ?_
        rintro e w' ⟨rfl, rfl⟩
        go_wp2_with fail
        refine (D0.out _).mono ?_
        rintro e w' ⟨rfl, rfl⟩
        go_wp2_with fail
        refine (fmt64_any _).mono ?_
        rintro e u1 ⟨rfl, hb⟩
        have B1 := Lib.hid (below_trans' B0.out hb)
        clear hb
        have HS0 := Lib.hid (FB64.start0 u1)
        go_wp2_with fail
        refine (NP.out _).mono ?_
        rintro e v1 ⟨rfl, hb⟩
        have hs := FB64.step HS0.out hb
        have HS1 := Lib.hid hs
        clear hb
        obtain ⟨c0, c1, c2, c3, c4, c5, c6⟩ := hs
        clear c5 c6
        go_wp2_with fail
        refine (NQ.out _).mono ?_
        rintro e v2 ⟨rfl, hb⟩
        have hs := FB64.step HS1.out hb
        have HS2 := Lib.hid hs
        clear hb c0 c1 c2 c3 c4
        obtain ⟨c0, c1, c2, c3, c4, c5, c6⟩ := hs
        clear c5 c6
        go_wp2_with fail
        refine (D1.out _).mono ?_
        rintro e w' ⟨rfl, rfl⟩
        go_wp2_with fail
        refine (D2.out _).mono ?_
        rintro e w' ⟨rfl, rfl⟩
        go_wp2_with fail
        refine (A0.out _).mono ?_
        rintro e w' ⟨rfl, rfl⟩
        go_wp2_with fail
        refine (NS.out _).mono ?_
        rintro e v3 ⟨rfl, hb⟩
        have hs := FB64.step HS2.out hb
        have HS3 := Lib.hid hs
        clear hb c0 c1 c2 c3 c4
        obtain ⟨c0, c1, c2, c3, c4, c5, c6⟩ := hs
        clear c5 c6
        go_wp2_with fail
        go_ret
        exact ⟨rfl, below_trans' B1.out (FB64.below HS3.out)⟩
    · cases hs : isNaN64 (add64 x y)
      · cases hz : isZero64 (add64 x y)
        · skip
          rw [hp] at NP
          generalize mul64 (flip64 x) y = m1 at *
          generalize mul64 x (flip64 y) = m2 at *
          rw [hq] at NQ
          generalize div64 (flip64 x) y = d1 at *
          generalize div64 x (flip64 y) = d2 at *
          rw [hs] at NS
          rw [hz] at ZS
          rw [add_flip264 hs hz] at A1
          generalize flip64 (mul64 x y) = fp' at *
          generalize flip64 (div64 x y) = fq' at *
          generalize flip64 (add64 x y) = fs' at *
          generalize mul64 x y = p at *
          generalize div64 x y = q at *
          generalize add64 x y = s at *
          generalize flip64 x = gx at *
          generalize flip64 y = gy at *
          have M0 := Lib.hid M0
          have D0 := Lib.hid D0
          have A0 := Lib.hid A0
          have M1 := Lib.hid M1
          have M2 := Lib.hid M2
          have D1 := Lib.hid D1
          have D2 := Lib.hid D2
          have A1 := Lib.hid A1
          have NP := Lib.hid NP
          have NQ := Lib.hid NQ
          have NS := Lib.hid NS
          have ZS := Lib.hid ZS
          clear lx ly lp lq ls hx hy hp hq hs hz
          have B0 := Lib.hid (Below.refl w.heap.size w)
          go_enter Try.func3, Try.ntmps3
          go_wp2_with fail
          refine (M0.out _).mono ?_
          rintro e w' ⟨rfl, rfl⟩
          go_wp2_with fail
          refine (D0.out _).mono ?_
          rintro e w' ⟨rfl, rfl⟩
          go_wp2_with fail
          refine (fmt64_any _).mono ?_
          rintro e u1 ⟨rfl, hb⟩
          have B1 := Lib.hid (below_trans' B0.out hb)
          clear hb
          have HS0 := Lib.hid (FB64.start0 u1)
          go_wp2_with fail
          refine (NP.out _).mono ?_
          rintro e v1 ⟨rfl, hb⟩
          have hs := FB64.step HS0.out hb
          have HS1 := Lib.hid hs
          clear hb
          obtain ⟨c0, c1, c2, c3, c4, c5, c6⟩ := hs
          clear c5 c6
          go_wp2_with fail
          refine (NQ.out _).mono ?_
          rintro e v2 ⟨rfl, hb⟩
          have hs := FB64.step HS1.out hb
          have HS2 := Lib.hid hs
          clear hb c0 c1 c2 c3 c4
          obtain ⟨c0, c1, c2, c3, c4, c5, c6⟩ := hs
          clear c5 c6
          go_wp2_with fail
          refine (A0.out _).mono ?_
          rintro e w' ⟨rfl, rfl⟩
          go_wp2_with fail
          refine (NS.out _).mono ?_
          rintro e v3 ⟨rfl, hb⟩
          have hs := FB64.step HS2.out hb
          have HS3 := Lib.hid hs
          clear hb c0 c1 c2 c3 c4
          obtain ⟨c0, c1, c2, c3, c4, c5, c6⟩ := hs
          clear c5 c6
          go_wp2_with fail
          refine (ZS.out _).mono ?_
          rintro e v4 ⟨rfl, hb⟩
          have hs := FB64.step HS3.out hb
          have HS4 := Lib.hid hs
          clear hb c0 c1 c2 c3 c4
          obtain ⟨c0, c1, c2, c3, c4, c5, c6⟩ := hs
          clear c5 c6
          go_wp2_with fail
          refine (A1.out _).mono ?_
          rintro e w' ⟨rfl, rfl⟩
          go_wp2_with fail
          go_ret
          exact ⟨rfl, below_trans' B1.out (FB64.below HS4.out)⟩
        · skip
          rw [hp] at NP
          generalize mul64 (flip64 x) y = m1 at *
          generalize mul64 x (flip64 y) = m2 at *
          rw [hq] at NQ
          generalize div64 (flip64 x) y = d1 at *
          generalize div64 x (flip64 y) = d2 at *
          rw [hs] at NS
          rw [hz] at ZS
          generalize add64 (flip64 x) (flip64 y) = a1 at *
          generalize flip64 (mul64 x y) = fp' at *
          generalize flip64 (div64 x y) = fq' at *
          generalize flip64 (add64 x y) = fs' at *
          generalize mul64 x y = p at *
          generalize div64 x y = q at *
          generalize add64 x y = s at *
          generalize flip64 x = gx at *
          generalize flip64 y = gy at *
          have M0 := Lib.hid M0
          have D0 := Lib.hid D0
          have A0 := Lib.hid A0
          have M1 := Lib.hid M1
          have M2 := Lib.hid M2
          have D1 := Lib.hid D1
          have D2 := Lib.hid D2
          have A1 := Lib.hid A1
          have NP := Lib.hid NP
          have NQ := Lib.hid NQ
          have NS := Lib.hid NS
          have ZS := Lib.hid ZS
          clear lx ly lp lq ls hx hy hp hq hs hz
          have B0 := Lib.hid (Below.refl w.heap.size w)
          go_enter Try.func3, Try.ntmps3
          go_wp2_with fail
          refine (M0.out _).mono ?_
          rintro e w' ⟨rfl, rfl⟩
          go_wp2_with fail
          refine (D0.out _).mono ?_
          rintro e w' ⟨rfl, rfl⟩
          go_wp2_with fail
          refine (fmt64_any _).mono ?_
          rintro e u1 ⟨rfl, hb⟩
          have B1 := Lib.hid (below_trans' B0.out hb)
          clear hb
          have HS0 := Lib.hid (FB64.start0 u1)
          go_wp2_with fail
          refine (NP.out _).mono ?_
          rintro e v1 ⟨rfl, hb⟩
          have hs := FB64.step HS0.out hb
          have HS1 := Lib.hid hs
          clear hb
          obtain ⟨c0, c1, c2, c3, c4, c5, c6⟩ := hs
          clear c5 c6
          go_wp2_with fail
          refine (NQ.out _).mono ?_
          rintro e v2 ⟨rfl, hb⟩
          have hs := FB64.step HS1.out hb
          have HS2 := Lib.hid hs
          clear hb c0 c1 c2 c3 c4
          obtain ⟨c0, c1, c2, c3, c4, c5, c6⟩ := hs
          clear c5 c6
          go_wp2_with fail
          refine (A0.out _).mono ?_
          rintro e w' ⟨rfl, rfl⟩
          go_wp2_with fail
          refine (NS.out _).mono ?_
          rintro e v3 ⟨rfl, hb⟩
          have hs := FB64.step HS2.out hb
          have HS3 := Lib.hid hs
          clear hb c0 c1 c2 c3 c4
          obtain ⟨c0, c1, c2, c3, c4, c5, c6⟩ := hs
          clear c5 c6
          go_wp2_with fail
          refine (ZS.out _).mono ?_
          rintro e v4 ⟨rfl, hb⟩
          have hs := FB64.step HS3.out hb
          have HS4 := Lib.hid hs
          clear hb c0 c1 c2 c3 c4
          obtain ⟨c0, c1, c2, c3, c4, c5, c6⟩ := hs
          clear c5 c6
          go_wp2_with fail
          go_ret
          exact ⟨rfl, below_trans' B1.out (FB64.below HS4.out)⟩
      · skip
        rw [hp] at NP
        generalize mul64 (flip64 x) y = m1 at *
        generalize mul64 x (flip64 y) = m2 at *
        rw [hq] at NQ
        generalize div64 (flip64 x) y = d1 at *
        generalize div64 x (flip64 y) = d2 at *
        rw [hs] at NS
        generalize add64 (flip64 x) (flip64 y) = a1 at *
        generalize flip64 (mul64 x y) = fp' at *
        generalize flip64 (div64 x y) = fq' at *
        generalize flip64 (add64 x y) = fs' at *
        generalize mul64 x y = p at *
        generalize div64 x y = q at *
        generalize add64 x y = s at *
        generalize flip64 x = gx at *
        generalize flip64 y = gy at *
        have M0 := Lib.hid M0
        have D0 := Lib.hid D0
        have A0 := Lib.hid A0
        have M1 := Lib.hid M1
        have M2 := Lib.hid M2
        have D1 := Lib.hid D1
        have D2 := Lib.hid D2
        have A1 := Lib.hid A1
        have NP := Lib.hid NP
        have NQ := Lib.hid NQ
        have NS := Lib.hid NS
        have ZS := Lib.hid ZS
        clear lx ly lp lq ls hx hy hp hq hs
        have B0 := Lib.hid (Below.refl w.heap.size w)
        go_enter Try.func3, Try.ntmps3
        go_wp2_with fail
        refine (M0.out _).mono ?_
        rintro e w' ⟨rfl, rfl⟩
        go_wp2_with fail
        refine (D0.out _).mono ?_
        rintro e w' ⟨rfl, rfl⟩
        go_wp2_with fail
        refine (fmt64_any _).mono ?_
        rintro e u1 ⟨rfl, hb⟩
        have B1 := Lib.hid (below_trans' B0.out hb)
        clear hb
        have HS0 := Lib.hid (FB64.start0 u1)
        go_wp2_with fail
        refine (NP.out _).mono ?_
        rintro e v1 ⟨rfl, hb⟩
        have hs := FB64.step HS0.out hb
        have HS1 := Lib.hid hs
        clear hb
        obtain ⟨c0, c1, c2, c3, c4, c5, c6⟩ := hs
        clear c5 c6
        go_wp2_with fail
        refine (NQ.out _).mono ?_
        rintro e v2 ⟨rfl, hb⟩
        have hs := FB64.step HS1.out hb
        have HS2 := Lib.hid hs
        clear hb c0 c1 c2 c3 c4
        obtain ⟨c0, c1, c2, c3, c4, c5, c6⟩ := hs
        clear c5 c6
        go_wp2_with fail
        refine (A0.out _).mono ?_
        rintro e w' ⟨rfl, rfl⟩
        go_wp2_with fail
        refine (NS.out _).mono ?_
        rintro e v3 ⟨rfl, hb⟩
        have hs := FB64.step HS2.out hb
        have HS3 := Lib.hid hs
        clear hb c0 c1 c2 c3 c4
        obtain ⟨c0, c1, c2, c3, c4, c5, c6⟩ := hs
        clear c5 c6
        go_wp2_with fail
        go_ret
        exact ⟨rfl, below_trans' B1.out (FB64.below HS3.out)⟩
end Go.Proofs.Ytlagofjbgjhenaa.SF
