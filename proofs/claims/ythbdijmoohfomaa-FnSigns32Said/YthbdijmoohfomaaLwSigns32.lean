/-
  The walk of a law.
-/
import Derived.Test.YthbdijmoohfomaaWrap
import Derived.Test.YthbdijmoohfomaaAlikeW
import Derived.Test.YthbdijmoohfomaaFmtB
import Derived.Test.YthbdijmoohfomaaFrame
import Derived.Test.YthbdijmoohfomaaWrap32
import Derived.Test.YthbdijmoohfomaaAlg
namespace Go.Proofs.Ythbdijmoohfomaa.SF
open Go.ChangeShapes Go.WideShapes Go.ChangeAt Go.RowKit
set_option linter.unusedVariables false
set_option maxRecDepth 100000 in
set_option maxHeartbeats 4000000 in
theorem fnSigns32 (x : Nat) (y : Nat) (w : World) (hx : x < 4294967296) (hy : y < 4294967296) : Calls Try.prog 11 #[.int .u32 (x : Int), .int .u32 (y : Int)] w (LawPost w) := by
  have lx := flip_lt32 x
  have ly := flip_lt32 y
  have fx := xor_flip132 hx
  have fy := xor_flip132 hy
  have lp := mul_lt32 x y
  have lq := div_lt32 x y
  have ls := add_lt32 hx hy
  have fp := xor_flip132 lp
  have fq := xor_flip132 lq
  have fs := xor_flip132 ls
  have M0 := fun w => implMul32 x y w hx hy
  have D0 := fun w => implDiv32 x y w hx hy
  have A0 := fun w => implAdd32 x y w hx hy
  have M1 := fun w => implMul32 (flip32 x) y w lx hy
  have M2 := fun w => implMul32 x (flip32 y) w hx ly
  have D1 := fun w => implDiv32 (flip32 x) y w lx hy
  have D2 := fun w => implDiv32 x (flip32 y) w hx ly
  have A1 := fun w => implAdd32 (flip32 x) (flip32 y) w lx ly
  have NP := fun w => fnan32_any (mul32 x y) w lp
  have NQ := fun w => fnan32_any (div32 x y) w lq
  have NS := fun w => fnan32_any (add32 x y) w ls
  have ZS := fun w => fzero32_any (add32 x y) w ls
  cases hp : isNaN32 (mul32 x y)
  · cases hq : isNaN32 (div32 x y)
    · cases hs : isNaN32 (add32 x y)
      · cases hz : isZero32 (add32 x y)
        · skip
          rw [hp] at NP
          rw [mul_flipl32 hp] at M1
          rw [mul_flipr32 hp] at M2
          rw [hq] at NQ
          rw [div_flipl32 hq] at D1
          rw [div_flipr32 hq] at D2
          rw [hs] at NS
          rw [hz] at ZS
          rw [add_flip232 hs hz] at A1
          generalize flip32 (mul32 x y) = fp' at *
          generalize flip32 (div32 x y) = fq' at *
          generalize flip32 (add32 x y) = fs' at *
          generalize mul32 x y = p at *
          generalize div32 x y = q at *
          generalize add32 x y = s at *
          generalize flip32 x = gx at *
          generalize flip32 y = gy at *
          have w1 : IntKind.u64.wrap (p : Int) = (p : Int) := wrap_u64_nat (by omega)
          have w2 : IntKind.u64.wrap (q : Int) = (q : Int) := wrap_u64_nat (by omega)
          have w3 : IntKind.u64.wrap (s : Int) = (s : Int) := wrap_u64_nat (by omega)
          have M0 := Lib.hid M0
          have D0 := Lib.hid D0
          have A0 := Lib.hid A0
          have M1 := Lib.hid M1
          have M2 := Lib.hid M2
          have D1 := Lib.hid D1
          have D2 := Lib.hid D2
          have A1 := Lib.hid A1
          have NP := Lib.hid NP
          have NQ := Lib.hid NQ
          have NS := Lib.hid NS
          have ZS := Lib.hid ZS
          clear lx ly lp lq ls hx hy hp hq hs hz
          have B0 := Lib.hid (Below.refl w.heap.size w)
          go_enter Try.func11, Try.ntmps11
          go_wp2_with fail
          refine (M0.out _).mono ?_
          rintro e w' ⟨rfl, rfl⟩
          go_wp2_with fail
          refine (D0.out _).mono ?_
          rintro e w' ⟨rfl, rfl⟩
          go_wp2_with fail
          refine (fmt32_any _).mono ?_
          rintro e u1 ⟨rfl, hb⟩
          have B1 := Lib.hid (below_trans' B0.out hb)
          clear hb
          have HS0 := Lib.hid (FB32.start0 u1)
          go_wp2_with fail
          refine (NP.out _).mono ?_
          rintro e v1 ⟨rfl, hb⟩
          have hs := FB32.step HS0.out hb
          have HS1 := Lib.hid hs
          clear hb
          obtain ⟨c0, c1, c2, c3, c4, c5, c6⟩ := hs
          clear c5 c6
          go_wp2_with fail
          refine (M1.out _).mono ?_
          rintro e w' ⟨rfl, rfl⟩
          go_wp2_with fail
          refine (M2.out _).mono ?_
          rintro e w' ⟨rfl, rfl⟩
          go_wp2_with fail
          refine (NQ.out _).mono ?_
          rintro e v2 ⟨rfl, hb⟩
          have hs := FB32.step HS1.out hb
          have HS2 := Lib.hid hs
          clear hb c0 c1 c2 c3 c4
          obtain ⟨c0, c1, c2, c3, c4, c5, c6⟩ := hs
          clear c5 c6
          go_wp2_with fail
          refine (D1.out _).mono ?_
          rintro e w' ⟨rfl, rfl⟩
          go_wp2_with fail
          refine (D2.out _).mono ?_
          rintro e w' ⟨rfl, rfl⟩
          go_wp2_with fail
          refine (A0.out _).mono ?_
          rintro e w' ⟨rfl, rfl⟩
          go_wp2_with fail
          refine (NS.out _).mono ?_
          rintro e v3 ⟨rfl, hb⟩
          have hs := FB32.step HS2.out hb
          have HS3 := Lib.hid hs
          clear hb c0 c1 c2 c3 c4
          obtain ⟨c0, c1, c2, c3, c4, c5, c6⟩ := hs
          clear c5 c6
          go_wp2_with fail
          refine (ZS.out _).mono ?_
          rintro e v4 ⟨rfl, hb⟩
          have hs := FB32.step HS3.out hb
          have HS4 := Lib.hid hs
          clear hb c0 c1 c2 c3 c4
          obtain ⟨c0, c1, c2, c3, c4, c5, c6⟩ := hs
          clear c5 c6
          go_wp2_with fail
          refine (A1.out _).mono ?_
          rintro e w' ⟨rfl, rfl⟩
          go_wp2_with fail
          go_ret
          exact ⟨rfl, below_trans' B1.out (FB32.below HS4.out)⟩
        · skip
          rw [hp] at NP
          rw [mul_flipl32 hp] at M1
          rw [mul_flipr32 hp] at M2
          rw [hq] at NQ
          rw [div_flipl32 hq] at D1
          rw [div_flipr32 hq] at D2
          rw [hs] at NS
          rw [hz] at ZS
          generalize add32 (flip32 x) (flip32 y) = a1 at *
          generalize flip32 (mul32 x y) = fp' at *
          generalize flip32 (div32 x y) = fq' at *
          generalize flip32 (add32 x y) = fs' at *
          generalize mul32 x y = p at *
          generalize div32 x y = q at *
          generalize add32 x y = s at *
          generalize flip32 x = gx at *
          generalize flip32 y = gy at *
          have w1 : IntKind.u64.wrap (p : Int) = (p : Int) := wrap_u64_nat (by omega)
          have w2 : IntKind.u64.wrap (q : Int) = (q : Int) := wrap_u64_nat (by omega)
          have w3 : IntKind.u64.wrap (s : Int) = (s : Int) := wrap_u64_nat (by omega)
          have M0 := Lib.hid M0
          have D0 := Lib.hid D0
          have A0 := Lib.hid A0
          have M1 := Lib.hid M1
          have M2 := Lib.hid M2
          have D1 := Lib.hid D1
          have D2 := Lib.hid D2
          have A1 := Lib.hid A1
          have NP := Lib.hid NP
          have NQ := Lib.hid NQ
          have NS := Lib.hid NS
          have ZS := Lib.hid ZS
          clear lx ly lp lq ls hx hy hp hq hs hz
          have B0 := Lib.hid (Below.refl w.heap.size w)
          go_enter Try.func11, Try.ntmps11
          go_wp2_with fail
          refine (M0.out _).mono ?_
          rintro e w' ⟨rfl, rfl⟩
          go_wp2_with fail
          refine (D0.out _).mono ?_
          rintro e w' ⟨rfl, rfl⟩
          go_wp2_with fail
          refine (fmt32_any _).mono ?_
          rintro e u1 ⟨rfl, hb⟩
          have B1 := Lib.hid (below_trans' B0.out hb)
          clear hb
          have HS0 := Lib.hid (FB32.start0 u1)
          go_wp2_with fail
          refine (NP.out _).mono ?_
          rintro e v1 ⟨rfl, hb⟩
          have hs := FB32.step HS0.out hb
          have HS1 := Lib.hid hs
          clear hb
          obtain ⟨c0, c1, c2, c3, c4, c5, c6⟩ := hs
          clear c5 c6
          go_wp2_with fail
          refine (M1.out _).mono ?_
          rintro e w' ⟨rfl, rfl⟩
          go_wp2_with fail
          refine (M2.out _).mono ?_
          rintro e w' ⟨rfl, rfl⟩
          go_wp2_with fail
          refine (NQ.out _).mono ?_
          rintro e v2 ⟨rfl, hb⟩
          have hs := FB32.step HS1.out hb
          have HS2 := Lib.hid hs
          clear hb c0 c1 c2 c3 c4
          obtain ⟨c0, c1, c2, c3, c4, c5, c6⟩ := hs
          clear c5 c6
          go_wp2_with fail
          refine (D1.out _).mono ?_
          rintro e w' ⟨rfl, rfl⟩
          go_wp2_with fail
          refine (D2.out _).mono ?_
          rintro e w' ⟨rfl, rfl⟩
          go_wp2_with fail
          refine (A0.out _).mono ?_
          rintro e w' ⟨rfl, rfl⟩
          go_wp2_with fail
          refine (NS.out _).mono ?_
          rintro e v3 ⟨rfl, hb⟩
          have hs := FB32.step HS2.out hb
          have HS3 := Lib.hid hs
          clear hb c0 c1 c2 c3 c4
          obtain ⟨c0, c1, c2, c3, c4, c5, c6⟩ := hs
          clear c5 c6
          go_wp2_with fail
          refine (ZS.out _).mono ?_
          rintro e v4 ⟨rfl, hb⟩
          have hs := FB32.step HS3.out hb
          have HS4 := Lib.hid hs
          clear hb c0 c1 c2 c3 c4
          obtain ⟨c0, c1, c2, c3, c4, c5, c6⟩ := hs
          clear c5 c6
          go_wp2_with fail
          go_ret
          exact ⟨rfl, below_trans' B1.out (FB32.below HS4.out)⟩
      · skip
        rw [hp] at NP
        rw [mul_flipl32 hp] at M1
        rw [mul_flipr32 hp] at M2
        rw [hq] at NQ
        rw [div_flipl32 hq] at D1
        rw [div_flipr32 hq] at D2
        rw [hs] at NS
        generalize add32 (flip32 x) (flip32 y) = a1 at *
        generalize flip32 (mul32 x y) = fp' at *
        generalize flip32 (div32 x y) = fq' at *
        generalize flip32 (add32 x y) = fs' at *
        generalize mul32 x y = p at *
        generalize div32 x y = q at *
        generalize add32 x y = s at *
        generalize flip32 x = gx at *
        generalize flip32 y = gy at *
        have w1 : IntKind.u64.wrap (p : Int) = (p : Int) := wrap_u64_nat (by omega)
        have w2 : IntKind.u64.wrap (q : Int) = (q : Int) := wrap_u64_nat (by omega)
        have w3 : IntKind.u64.wrap (s : Int) = (s : Int) := wrap_u64_nat (by omega)
        have M0 := Lib.hid M0
        have D0 := Lib.hid D0
        have A0 := Lib.hid A0
        have M1 := Lib.hid M1
        have M2 := Lib.hid M2
        have D1 := Lib.hid D1
        have D2 := Lib.hid D2
        have A1 := Lib.hid A1
        have NP := Lib.hid NP
        have NQ := Lib.hid NQ
        have NS := Lib.hid NS
        have ZS := Lib.hid ZS
        clear lx ly lp lq ls hx hy hp hq hs
        have B0 := Lib.hid (Below.refl w.heap.size w)
        go_enter Try.func11, Try.ntmps11
        go_wp2_with fail
        refine (M0.out _).mono ?_
        rintro e w' ⟨rfl, rfl⟩
        go_wp2_with fail
        refine (D0.out _).mono ?_
        rintro e w' ⟨rfl, rfl⟩
        go_wp2_with fail
        refine (fmt32_any _).mono ?_
        rintro e u1 ⟨rfl, hb⟩
        have B1 := Lib.hid (below_trans' B0.out hb)
        clear hb
        have HS0 := Lib.hid (FB32.start0 u1)
        go_wp2_with fail
        refine (NP.out _).mono ?_
        rintro e v1 ⟨rfl, hb⟩
        have hs := FB32.step HS0.out hb
        have HS1 := Lib.hid hs
        clear hb
        obtain ⟨c0, c1, c2, c3, c4, c5, c6⟩ := hs
        clear c5 c6
        go_wp2_with fail
        refine (M1.out _).mono ?_
        rintro e w' ⟨rfl, rfl⟩
        go_wp2_with fail
        refine (M2.out _).mono ?_
        rintro e w' ⟨rfl, rfl⟩
        go_wp2_with fail
        refine (NQ.out _).mono ?_
        rintro e v2 ⟨rfl, hb⟩
        have hs := FB32.step HS1.out hb
        have HS2 := Lib.hid hs
        clear hb c0 c1 c2 c3 c4
        obtain ⟨c0, c1, c2, c3, c4, c5, c6⟩ := hs
        clear c5 c6
        go_wp2_with fail
        refine (D1.out _).mono ?_
        rintro e w' ⟨rfl, rfl⟩
        go_wp2_with fail
        refine (D2.out _).mono ?_
        rintro e w' ⟨rfl, rfl⟩
        go_wp2_with fail
        refine (A0.out _).mono ?_
        rintro e w' ⟨rfl, rfl⟩
        go_wp2_with fail
        refine (NS.out _).mono ?_
        rintro e v3 ⟨rfl, hb⟩
        have hs := FB32.step HS2.out hb
        have HS3 := Lib.hid hs
        clear hb c0 c1 c2 c3 c4
        obtain ⟨c0, c1, c2, c3, c4, c5, c6⟩ := hs
        clear c5 c6
        go_wp2_with fail
        go_ret
        exact ⟨rfl, below_trans' B1.out (FB32.below HS3.out)⟩
    · cases hs : isNaN32 (add32 x y)
      · cases hz : isZero32 (add32 x y)
        · skip
          rw [hp] at NP
          rw [mul_flipl32 hp] at M1
          rw [mul_flipr32 hp] at M2
          rw [hq] at NQ
          generalize div32 (flip32 x) y = d1 at *
          generalize div32 x (flip32 y) = d2 at *
          rw [hs] at NS
          rw [hz] at ZS
          rw [add_flip232 hs hz] at A1
          generalize flip32 (mul32 x y) = fp' at *
          generalize flip32 (div32 x y) = fq' at *
          generalize flip32 (add32 x y) = fs' at *
          generalize mul32 x y = p at *
          generalize div32 x y = q at *
          generalize add32 x y = s at *
          generalize flip32 x = gx at *
          generalize flip32 y = gy at *
          have w1 : IntKind.u64.wrap (p : Int) = (p : Int) := wrap_u64_nat (by omega)
          have w2 : IntKind.u64.wrap (q : Int) = (q : Int) := wrap_u64_nat (by omega)
          have w3 : IntKind.u64.wrap (s : Int) = (s : Int) := wrap_u64_nat (by omega)
          have M0 := Lib.hid M0
          have D0 := Lib.hid D0
          have A0 := Lib.hid A0
          have M1 := Lib.hid M1
          have M2 := Lib.hid M2
          have D1 := Lib.hid D1
          have D2 := Lib.hid D2
          have A1 := Lib.hid A1
          have NP := Lib.hid NP
          have NQ := Lib.hid NQ
          have NS := Lib.hid NS
          have ZS := Lib.hid ZS
          clear lx ly lp lq ls hx hy hp hq hs hz
          have B0 := Lib.hid (Below.refl w.heap.size w)
          go_enter Try.func11, Try.ntmps11
          go_wp2_with fail
          refine (M0.out _).mono ?_
          rintro e w' ⟨rfl, rfl⟩
          go_wp2_with fail
          refine (D0.out _).mono ?_
          rintro e w' ⟨rfl, rfl⟩
          go_wp2_with fail
          refine (fmt32_any _).mono ?_
          rintro e u1 ⟨rfl, hb⟩
          have B1 := Lib.hid (below_trans' B0.out hb)
          clear hb
          have HS0 := Lib.hid (FB32.start0 u1)
          go_wp2_with fail
          refine (NP.out _).mono ?_
          rintro e v1 ⟨rfl, hb⟩
          have hs := FB32.step HS0.out hb
          have HS1 := Lib.hid hs
          clear hb
          obtain ⟨c0, c1, c2, c3, c4, c5, c6⟩ := hs
          clear c5 c6
          go_wp2_with fail
          refine (M1.out _).mono ?_
          rintro e w' ⟨rfl, rfl⟩
          go_wp2_with fail
          refine (M2.out _).mono ?_
          rintro e w' ⟨rfl, rfl⟩
          go_wp2_with fail
          refine (NQ.out _).mono ?_
          rintro e v2 ⟨rfl, hb⟩
          have hs := FB32.step HS1.out hb
          have HS2 := Lib.hid hs
          clear hb c0 c1 c2 c3 c4
          obtain ⟨c0, c1, c2, c3, c4, c5, c6⟩ := hs
          clear c5 c6
          go_wp2_with fail
          refine (A0.out _).mono ?_
          rintro e w' ⟨rfl, rfl⟩
          go_wp2_with fail
          refine (NS.out _).mono ?_
          rintro e v3 ⟨rfl, hb⟩
          have hs := FB32.step HS2.out hb
          have HS3 := Lib.hid hs
          clear hb c0 c1 c2 c3 c4
          obtain ⟨c0, c1, c2, c3, c4, c5, c6⟩ := hs
          clear c5 c6
          go_wp2_with fail
          refine (ZS.out _).mono ?_
          rintro e v4 ⟨rfl, hb⟩
          have hs := FB32.step HS3.out hb
          have HS4 := Lib.hid hs
          clear hb c0 c1 c2 c3 c4
          obtain ⟨c0, c1, c2, c3, c4, c5, c6⟩ := hs
          clear c5 c6
          go_wp2_with fail
          refine (A1.out _).mono ?_
          rintro e w' ⟨rfl, rfl⟩
          go_wp2_with fail
          go_ret
          exact ⟨rfl, below_trans' B1.out (FB32.below HS4.out)⟩
        · skip
          rw [hp] at NP
          rw [mul_flipl32 hp] at M1
          rw [mul_flipr32 hp] at M2
          rw [hq] at NQ
          generalize div32 (flip32 x) y = d1 at *
          generalize div32 x (flip32 y) = d2 at *
          rw [hs] at NS
          rw [hz] at ZS
          generalize add32 (flip32 x) (flip32 y) = a1 at *
          generalize flip32 (mul32 x y) = fp' at *
          generalize flip32 (div32 x y) = fq' at *
          generalize flip32 (add32 x y) = fs' at *
          generalize mul32 x y = p at *
          generalize div32 x y = q at *
          generalize add32 x y = s at *
          generalize flip32 x = gx at *
          generalize flip32 y = gy at *
          have w1 : IntKind.u64.wrap (p : Int) = (p : Int) := wrap_u64_nat (by omega)
          have w2 : IntKind.u64.wrap (q : Int) = (q : Int) := wrap_u64_nat (by omega)
          have w3 : IntKind.u64.wrap (s : Int) = (s : Int) := wrap_u64_nat (by omega)
          have M0 := Lib.hid M0
          have D0 := Lib.hid D0
          have A0 := Lib.hid A0
          have M1 := Lib.hid M1
          have M2 := Lib.hid M2
          have D1 := Lib.hid D1
          have D2 := Lib.hid D2
          have A1 := Lib.hid A1
          have NP := Lib.hid NP
          have NQ := Lib.hid NQ
          have NS := Lib.hid NS
          have ZS := Lib.hid ZS
          clear lx ly lp lq ls hx hy hp hq hs hz
          have B0 := Lib.hid (Below.refl w.heap.size w)
          go_enter Try.func11, Try.ntmps11
          go_wp2_with fail
          refine (M0.out _).mono ?_
          rintro e w' ⟨rfl, rfl⟩
          go_wp2_with fail
          refine (D0.out _).mono ?_
          rintro e w' ⟨rfl, rfl⟩
          go_wp2_with fail
          refine (fmt32_any _).mono ?_
          rintro e u1 ⟨rfl, hb⟩
          have B1 := Lib.hid (below_trans' B0.out hb)
          clear hb
          have HS0 := Lib.hid (FB32.start0 u1)
          go_wp2_with fail
          refine (NP.out _).mono ?_
          rintro e v1 ⟨rfl, hb⟩
          have hs := FB32.step HS0.out hb
          have HS1 := Lib.hid hs
          clear hb
          obtain ⟨c0, c1, c2, c3, c4, c5, c6⟩ := hs
          clear c5 c6
          go_wp2_with fail
          refine (M1.out _).mono ?_
          rintro e w' ⟨rfl, rfl⟩
          go_wp2_with fail
          refine (M2.out _).mono ?_
          rintro e w' ⟨rfl, rfl⟩
          go_wp2_with fail
          refine (NQ.out _).mono ?_
          rintro e v2 ⟨rfl, hb⟩
          have hs := FB32.step HS1.out hb
          have HS2 := Lib.hid hs
          clear hb c0 c1 c2 c3 c4
          obtain ⟨c0, c1, c2, c3, c4, c5, c6⟩ := hs
          clear c5 c6
          go_wp2_with fail
          refine (A0.out _).mono ?_
          rintro e w' ⟨rfl, rfl⟩
          go_wp2_with fail
          refine (NS.out _).mono ?_
          rintro e v3 ⟨rfl, hb⟩
          have hs := FB32.step HS2.out hb
          have HS3 := Lib.hid hs
          clear hb c0 c1 c2 c3 c4
          obtain ⟨c0, c1, c2, c3, c4, c5, c6⟩ := hs
          clear c5 c6
          go_wp2_with fail
          refine (ZS.out _).mono ?_
          rintro e v4 ⟨rfl, hb⟩
          have hs := FB32.step HS3.out hb
          have HS4 := Lib.hid hs
          clear hb c0 c1 c2 c3 c4
          obtain ⟨c0, c1, c2, c3, c4, c5, c6⟩ := hs
          clear c5 c6
          go_wp2_with fail
          go_ret
          exact ⟨rfl, below_trans' B1.out (FB32.below HS4.out)⟩
      · skip
        rw [hp] at NP
        rw [mul_flipl32 hp] at M1
        rw [mul_flipr32 hp] at M2
        rw [hq] at NQ
        generalize div32 (flip32 x) y = d1 at *
        generalize div32 x (flip32 y) = d2 at *
        rw [hs] at NS
        generalize add32 (flip32 x) (flip32 y) = a1 at *
        generalize flip32 (mul32 x y) = fp' at *
        generalize flip32 (div32 x y) = fq' at *
        generalize flip32 (add32 x y) = fs' at *
        generalize mul32 x y = p at *
        generalize div32 x y = q at *
        generalize add32 x y = s at *
        generalize flip32 x = gx at *
        generalize flip32 y = gy at *
        have w1 : IntKind.u64.wrap (p : Int) = (p : Int) := wrap_u64_nat (by omega)
        have w2 : IntKind.u64.wrap (q : Int) = (q : Int) := wrap_u64_nat (by omega)
        have w3 : IntKind.u64.wrap (s : Int) = (s : Int) := wrap_u64_nat (by omega)
        have M0 := Lib.hid M0
        have D0 := Lib.hid D0
        have A0 := Lib.hid A0
        have M1 := Lib.hid M1
        have M2 := Lib.hid M2
        have D1 := Lib.hid D1
        have D2 := Lib.hid D2
        have A1 := Lib.hid A1
        have NP := Lib.hid NP
        have NQ := Lib.hid NQ
        have NS := Lib.hid NS
        have ZS := Lib.hid ZS
        clear lx ly lp lq ls hx hy hp hq hs
        have B0 := Lib.hid (Below.refl w.heap.size w)
        go_enter Try.func11, Try.ntmps11
        go_wp2_with fail
        refine (M0.out _).mono ?_
        rintro e w' ⟨rfl, rfl⟩
        go_wp2_with fail
        refine (D0.out _).mono ?_
        rintro e w' ⟨rfl, rfl⟩
        go_wp2_with fail
        refine (fmt32_any _).mono ?_
        rintro e u1 ⟨rfl, hb⟩
        have B1 := Lib.hid (below_trans' B0.out hb)
        clear hb
        have HS0 := Lib.hid (FB32.start0 u1)
        go_wp2_with fail
        refine (NP.out _).mono ?_
        rintro e v1 ⟨rfl, hb⟩
        have hs := FB32.step HS0.out hb
        have HS1 := Lib.hid hs
        clear hb
        obtain ⟨c0, c1, c2, c3, c4, c5, c6⟩ := hs
        clear c5 c6
        go_wp2_with fail
        refine (M1.out _).mono ?_
        rintro e w' ⟨rfl, rfl⟩
        go_wp2_with fail
        refine (M2.out _).mono ?_
        rintro e w' ⟨rfl, rfl⟩
        go_wp2_with fail
        refine (NQ.out _).mono ?_
        rintro e v2 ⟨rfl, hb⟩
        have hs := FB32.step HS1.out hb
        have HS2 := Lib.hid hs
        clear hb c0 c1 c2 c3 c4
        obtain ⟨c0, c1, c2, c3, c4, c5, c6⟩ := hs
        clear c5 c6
        go_wp2_with fail
        refine (A0.out _).mono ?_
        rintro e w' ⟨rfl, rfl⟩
        go_wp2_with fail
        refine (NS.out _).mono ?_
        rintro e v3 ⟨rfl, hb⟩
        have hs := FB32.step HS2.out hb
        have HS3 := Lib.hid hs
        clear hb c0 c1 c2 c3 c4
        obtain ⟨c0, c1, c2, c3, c4, c5, c6⟩ := hs
        clear c5 c6
        go_wp2_with fail
        go_ret
        exact ⟨rfl, below_trans' B1.out (FB32.below HS3.out)⟩
  · cases hq : isNaN32 (div32 x y)
    · cases hs : isNaN32 (add32 x y)
      · cases hz : isZero32 (add32 x y)
        · skip
          rw [hp] at NP
          generalize mul32 (flip32 x) y = m1 at *
          generalize mul32 x (flip32 y) = m2 at *
          rw [hq] at NQ
          rw [div_flipl32 hq] at D1
          rw [div_flipr32 hq] at D2
          rw [hs] at NS
          rw [hz] at ZS
          rw [add_flip232 hs hz] at A1
          generalize flip32 (mul32 x y) = fp' at *
          generalize flip32 (div32 x y) = fq' at *
          generalize flip32 (add32 x y) = fs' at *
          generalize mul32 x y = p at *
          generalize div32 x y = q at *
          generalize add32 x y = s at *
          generalize flip32 x = gx at *
          generalize flip32 y = gy at *
          have w1 : IntKind.u64.wrap (p : Int) = (p : Int) := wrap_u64_nat (by omega)
          have w2 : IntKind.u64.wrap (q : Int) = (q : Int) := wrap_u64_nat (by omega)
          have w3 : IntKind.u64.wrap (s : Int) = (s : Int) := wrap_u64_nat (by omega)
          have M0 := Lib.hid M0
          have D0 := Lib.hid D0
          have A0 := Lib.hid A0
          have M1 := Lib.hid M1
          have M2 := Lib.hid M2
          have D1 := Lib.hid D1
          have D2 := Lib.hid D2
          have A1 := Lib.hid A1
          have NP := Lib.hid NP
          have NQ := Lib.hid NQ
          have NS := Lib.hid NS
          have ZS := Lib.hid ZS
          clear lx ly lp lq ls hx hy hp hq hs hz
          have B0 := Lib.hid (Below.refl w.heap.size w)
          go_enter Try.func11, Try.ntmps11
          go_wp2_with fail
          refine (M0.out _).mono ?_
          rintro e w' ⟨rfl, rfl⟩
          go_wp2_with fail
          refine (D0.out _).mono ?_
          rintro e w' ⟨rfl, rfl⟩
          go_wp2_with fail
          refine (fmt32_any _).mono ?_
          rintro e u1 ⟨rfl, hb⟩
          have B1 := Lib.hid (below_trans' B0.out hb)
          clear hb
          have HS0 := Lib.hid (FB32.start0 u1)
          go_wp2_with fail
          refine (NP.out _).mono ?_
          rintro e v1 ⟨rfl, hb⟩
          have hs := FB32.step HS0.out hb
          have HS1 := Lib.hid hs
          clear hb
          obtain ⟨c0, c1, c2, c3, c4, c5, c6⟩ := hs
          clear c5 c6
          go_wp2_with fail
          refine (NQ.out _).mono ?_
          rintro e v2 ⟨rfl, hb⟩
          have hs := FB32.step HS1.out hb
          have HS2 := Lib.hid hs
          clear hb c0 c1 c2 c3 c4
          obtain ⟨c0, c1, c2, c3, c4, c5, c6⟩ := hs
          clear c5 c6
          go_wp2_with fail
          refine (D1.out _).mono ?_
          rintro e w' ⟨rfl, rfl⟩
          go_wp2_with fail
          refine (D2.out _).mono ?_
          rintro e w' ⟨rfl, rfl⟩
          go_wp2_with fail
          refine (A0.out _).mono ?_
          rintro e w' ⟨rfl, rfl⟩
          go_wp2_with fail
          refine (NS.out _).mono ?_
          rintro e v3 ⟨rfl, hb⟩
          have hs := FB32.step HS2.out hb
          have HS3 := Lib.hid hs
          clear hb c0 c1 c2 c3 c4
          obtain ⟨c0, c1, c2, c3, c4, c5, c6⟩ := hs
          clear c5 c6
          go_wp2_with fail
          refine (ZS.out _).mono ?_
          rintro e v4 ⟨rfl, hb⟩
          have hs := FB32.step HS3.out hb
          have HS4 := Lib.hid hs
          clear hb c0 c1 c2 c3 c4
          obtain ⟨c0, c1, c2, c3, c4, c5, c6⟩ := hs
          clear c5 c6
          go_wp2_with fail
          refine (A1.out _).mono ?_
          rintro e w' ⟨rfl, rfl⟩
          go_wp2_with fail
          go_ret
          exact ⟨rfl, below_trans' B1.out (FB32.below HS4.out)⟩
        · skip
          rw [hp] at NP
          generalize mul32 (flip32 x) y = m1 at *
          generalize mul32 x (flip32 y) = m2 at *
          rw [hq] at NQ
          rw [div_flipl32 hq] at D1
          rw [div_flipr32 hq] at D2
          rw [hs] at NS
          rw [hz] at ZS
          generalize add32 (flip32 x) (flip32 y) = a1 at *
          generalize flip32 (mul32 x y) = fp' at *
          generalize flip32 (div32 x y) = fq' at *
          generalize flip32 (add32 x y) = fs' at *
          generalize mul32 x y = p at *
          generalize div32 x y = q at *
          generalize add32 x y = s at *
          generalize flip32 x = gx at *
          generalize flip32 y = gy at *
          have w1 : IntKind.u64.wrap (p : Int) = (p : Int) := wrap_u64_nat (by omega)
          have w2 : IntKind.u64.wrap (q : Int) = (q : Int) := wrap_u64_nat (by omega)
          have w3 : IntKind.u64.wrap (s : Int) = (s : Int) := wrap_u64_nat (by omega)
          have M0 := Lib.hid M0
          have D0 := Lib.hid D0
          have A0 := Lib.hid A0
          have M1 := Lib.hid M1
          have M2 := Lib.hid M2
          have D1 := Lib.hid D1
          have D2 := Lib.hid D2
          have A1 := Lib.hid A1
          have NP := Lib.hid NP
          have NQ := Lib.hid NQ
          have NS := Lib.hid NS
          have ZS := Lib.hid ZS
          clear lx ly lp lq ls hx hy hp hq hs hz
          have B0 := Lib.hid (Below.refl w.heap.size w)
          go_enter Try.func11, Try.ntmps11
          go_wp2_with fail
          refine (M0.out _).mono ?_
          rintro e w' ⟨rfl, rfl⟩
          go_wp2_with fail
          refine (D0.out _).mono ?_
          rintro e w' ⟨rfl, rfl⟩
          go_wp2_with fail
          refine (fmt32_any _).mono ?_
          rintro e u1 ⟨rfl, hb⟩
          have B1 := Lib.hid (below_trans' B0.out hb)
          clear hb
          have HS0 := Lib.hid (FB32.start0 u1)
          go_wp2_with fail
          refine (NP.out _).mono ?_
          rintro e v1 ⟨rfl, hb⟩
          have hs := FB32.step HS0.out hb
          have HS1 := Lib.hid hs
          clear hb
          obtain ⟨c0, c1, c2, c3, c4, c5, c6⟩ := hs
          clear c5 c6
          go_wp2_with fail
          refine (NQ.out _).mono ?_
          rintro e v2 ⟨rfl, hb⟩
          have hs := FB32.step HS1.out hb
          have HS2 := Lib.hid hs
          clear hb c0 c1 c2 c3 c4
          obtain ⟨c0, c1, c2, c3, c4, c5, c6⟩ := hs
          clear c5 c6
          go_wp2_with fail
          refine (D1.out _).mono ?_
          rintro e w' ⟨rfl, rfl⟩
          go_wp2_with fail
          refine (D2.out _).mono ?_
          rintro e w' ⟨rfl, rfl⟩
          go_wp2_with fail
          refine (A0.out _).mono ?_
          rintro e w' ⟨rfl, rfl⟩
          go_wp2_with fail
          refine (NS.out _).mono ?_
          rintro e v3 ⟨rfl, hb⟩
          have hs := FB32.step HS2.out hb
          have HS3 := Lib.hid hs
          clear hb c0 c1 c2 c3 c4
          obtain ⟨c0, c1, c2, c3, c4, c5, c6⟩ := hs
          clear c5 c6
          go_wp2_with fail
          refine (ZS.out _).mono ?_
          rintro e v4 ⟨rfl, hb⟩
          have hs := FB32.step HS3.out hb
          have HS4 := Lib.hid hs
          clear hb c0 c1 c2 c3 c4
          obtain ⟨c0, c1, c2, c3, c4, c5, c6⟩ := hs
          clear c5 c6
          go_wp2_with fail
          go_ret
          exact ⟨rfl, below_trans' B1.out (FB32.below HS4.out)⟩
      · skip
        rw [hp] at NP
        generalize mul32 (flip32 x) y = m1 at *
        generalize mul32 x (flip32 y) = m2 at *
        rw [hq] at NQ
        rw [div_flipl32 hq] at D1
        rw [div_flipr32 hq] at D2
        rw [hs] at NS
        generalize add32 (flip32 x) (flip32 y) = a1 at *
        generalize flip32 (mul32 x y) = fp' at *
        generalize flip32 (div32 x y) = fq' at *
        generalize flip32 (add32 x y) = fs' at *
        generalize mul32 x y = p at *
        generalize div32 x y = q at *
        generalize add32 x y = s at *
        generalize flip32 x = gx at *
        generalize flip32 y = gy at *
        have w1 : IntKind.u64.wrap (p : Int) = (p : Int) := wrap_u64_nat (by omega)
        have w2 : IntKind.u64.wrap (q : Int) = (q : Int) := wrap_u64_nat (by omega)
        have w3 : IntKind.u64.wrap (s : Int) = (s : Int) := wrap_u64_nat (by omega)
        have M0 := Lib.hid M0
        have D0 := Lib.hid D0
        have A0 := Lib.hid A0
        have M1 := Lib.hid M1
        have M2 := Lib.hid M2
        have D1 := Lib.hid D1
        have D2 := Lib.hid D2
        have A1 := Lib.hid A1
        have NP := Lib.hid NP
        have NQ := Lib.hid NQ
        have NS := Lib.hid NS
        have ZS := Lib.hid ZS
        clear lx ly lp lq ls hx hy hp hq hs
        have B0 := Lib.hid (Below.refl w.heap.size w)
        go_enter Try.func11, Try.ntmps11
        go_wp2_with fail
        refine (M0.out _).mono ?_
        rintro e w' ⟨rfl, rfl⟩
        go_wp2_with fail
        refine (D0.out _).mono ?_
        rintro e w' ⟨rfl, rfl⟩
        go_wp2_with fail
        refine (fmt32_any _).mono ?_
        rintro e u1 ⟨rfl, hb⟩
        have B1 := Lib.hid (below_trans' B0.out hb)
        clear hb
        have HS0 := Lib.hid (FB32.start0 u1)
        go_wp2_with fail
        refine (NP.out _).mono ?_
        rintro e v1 ⟨rfl, hb⟩
        have hs := FB32.step HS0.out hb
        have HS1 := Lib.hid hs
        clear hb
        obtain ⟨c0, c1, c2, c3, c4, c5, c6⟩ := hs
        clear c5 c6
        go_wp2_with fail
        refine (NQ.out _).mono ?_
        rintro e v2 ⟨rfl, hb⟩
        have hs := FB32.step HS1.out hb
        have HS2 := Lib.hid hs
        clear hb c0 c1 c2 c3 c4
        obtain ⟨c0, c1, c2, c3, c4, c5, c6⟩ := hs
        clear c5 c6
        go_wp2_with fail
        refine (D1.out _).mono ?_
        rintro e w' ⟨rfl, rfl⟩
        go_wp2_with fail
        refine (D2.out _).mono ?_
        rintro e w' ⟨rfl, rfl⟩
        go_wp2_with fail
        refine (A0.out _).mono ?_
        rintro e w' ⟨rfl, rfl⟩
        go_wp2_with fail
        refine (NS.out _).mono ?_
        rintro e v3 ⟨rfl, hb⟩
        have hs := FB32.step HS2.out hb
        have HS3 := Lib.hid hs
        clear hb c0 c1 c2 c3 c4
        obtain ⟨c0, c1, c2, c3, c4, c5, c6⟩ := hs
        clear c5 c6
        go_wp2_with fail
        go_ret
        exact ⟨rfl, below_trans' B1.out (FB32.below HS3.out)⟩
    · cases hs : isNaN32 (add32 x y)
      · cases hz : isZero32 (add32 x y)
        · skip
          rw [hp] at NP
          generalize mul32 (flip32 x) y = m1 at *
          generalize mul32 x (flip32 y) = m2 at *
          rw [hq] at NQ
          generalize div32 (flip32 x) y = d1 at *
          generalize div32 x (flip32 y) = d2 at *
          rw [hs] at NS
          rw [hz] at ZS
          rw [add_flip232 hs hz] at A1
          generalize flip32 (mul32 x y) = fp' at *
          generalize flip32 (div32 x y) = fq' at *
          generalize flip32 (add32 x y) = fs' at *
          generalize mul32 x y = p at *
          generalize div32 x y = q at *
          generalize add32 x y = s at *
          generalize flip32 x = gx at *
          generalize flip32 y = gy at *
          have w1 : IntKind.u64.wrap (p : Int) = (p : Int) := wrap_u64_nat (by omega)
          have w2 : IntKind.u64.wrap (q : Int) = (q : Int) := wrap_u64_nat (by omega)
          have w3 : IntKind.u64.wrap (s : Int) = (s : Int) := wrap_u64_nat (by omega)
          have M0 := Lib.hid M0
          have D0 := Lib.hid D0
          have A0 := Lib.hid A0
          have M1 := Lib.hid M1
          have M2 := Lib.hid M2
          have D1 := Lib.hid D1
          have D2 := Lib.hid D2
          have A1 := Lib.hid A1
          have NP := Lib.hid NP
          have NQ := Lib.hid NQ
          have NS := Lib.hid NS
          have ZS := Lib.hid ZS
          clear lx ly lp lq ls hx hy hp hq hs hz
          have B0 := Lib.hid (Below.refl w.heap.size w)
          go_enter Try.func11, Try.ntmps11
          go_wp2_with fail
          refine (M0.out _).mono ?_
          rintro e w' ⟨rfl, rfl⟩
          go_wp2_with fail
          refine (D0.out _).mono ?_
          rintro e w' ⟨rfl, rfl⟩
          go_wp2_with fail
          refine (fmt32_any _).mono ?_
          rintro e u1 ⟨rfl, hb⟩
          have B1 := Lib.hid (below_trans' B0.out hb)
          clear hb
          have HS0 := Lib.hid (FB32.start0 u1)
          go_wp2_with fail
          refine (NP.out _).mono ?_
          rintro e v1 ⟨rfl, hb⟩
          have hs := FB32.step HS0.out hb
          have HS1 := Lib.hid hs
          clear hb
          obtain ⟨c0, c1, c2, c3, c4, c5, c6⟩ := hs
          clear c5 c6
          go_wp2_with fail
          refine (NQ.out _).mono ?_
          rintro e v2 ⟨rfl, hb⟩
          have hs := FB32.step HS1.out hb
          have HS2 := Lib.hid hs
          clear hb c0 c1 c2 c3 c4
          obtain ⟨c0, c1, c2, c3, c4, c5, c6⟩ := hs
          clear c5 c6
          go_wp2_with fail
          refine (A0.out _).mono ?_
          rintro e w' ⟨rfl, rfl⟩
          go_wp2_with fail
          refine (NS.out _).mono ?_
          rintro e v3 ⟨rfl, hb⟩
          have hs := FB32.step HS2.out hb
          have HS3 := Lib.hid hs
          clear hb c0 c1 c2 c3 c4
          obtain ⟨c0, c1, c2, c3, c4, c5, c6⟩ := hs
          clear c5 c6
          go_wp2_with fail
          refine (ZS.out _).mono ?_
          rintro e v4 ⟨rfl, hb⟩
          have hs := FB32.step HS3.out hb
          have HS4 := Lib.hid hs
          clear hb c0 c1 c2 c3 c4
          obtain ⟨c0, c1, c2, c3, c4, c5, c6⟩ := hs
          clear c5 c6
          go_wp2_with fail
          refine (A1.out _).mono ?_
          rintro e w' ⟨rfl, rfl⟩
          go_wp2_with fail
          go_ret
          exact ⟨rfl, below_trans' B1.out (FB32.below HS4.out)⟩
        · skip
          rw [hp] at NP
          generalize mul32 (flip32 x) y = m1 at *
          generalize mul32 x (flip32 y) = m2 at *
          rw [hq] at NQ
          generalize div32 (flip32 x) y = d1 at *
          generalize div32 x (flip32 y) = d2 at *
          rw [hs] at NS
          rw [hz] at ZS
          generalize add32 (flip32 x) (flip32 y) = a1 at *
          generalize flip32 (mul32 x y) = fp' at *
          generalize flip32 (div32 x y) = fq' at *
          generalize flip32 (add32 x y) = fs' at *
          generalize mul32 x y = p at *
          generalize div32 x y = q at *
          generalize add32 x y = s at *
          generalize flip32 x = gx at *
          generalize flip32 y = gy at *
          have w1 : IntKind.u64.wrap (p : Int) = (p : Int) := wrap_u64_nat (by omega)
          have w2 : IntKind.u64.wrap (q : Int) = (q : Int) := wrap_u64_nat (by omega)
          have w3 : IntKind.u64.wrap (s : Int) = (s : Int) := wrap_u64_nat (by omega)
          have M0 := Lib.hid M0
          have D0 := Lib.hid D0
          have A0 := Lib.hid A0
          have M1 := Lib.hid M1
          have M2 := Lib.hid M2
          have D1 := Lib.hid D1
          have D2 := Lib.hid D2
          have A1 := Lib.hid A1
          have NP := Lib.hid NP
          have NQ := Lib.hid NQ
          have NS := Lib.hid NS
          have ZS := Lib.hid ZS
          clear lx ly lp lq ls hx hy hp hq hs hz
          have B0 := Lib.hid (Below.refl w.heap.size w)
          go_enter Try.func11, Try.ntmps11
          go_wp2_with fail
          refine (M0.out _).mono ?_
          rintro e w' ⟨rfl, rfl⟩
          go_wp2_with fail
          refine (D0.out _).mono ?_
          rintro e w' ⟨rfl, rfl⟩
          go_wp2_with fail
          refine (fmt32_any _).mono ?_
          rintro e u1 ⟨rfl, hb⟩
          have B1 := Lib.hid (below_trans' B0.out hb)
          clear hb
          have HS0 := Lib.hid (FB32.start0 u1)
          go_wp2_with fail
          refine (NP.out _).mono ?_
          rintro e v1 ⟨rfl, hb⟩
          have hs := FB32.step HS0.out hb
          have HS1 := Lib.hid hs
          clear hb
          obtain ⟨c0, c1, c2, c3, c4, c5, c6⟩ := hs
          clear c5 c6
          go_wp2_with fail
          refine (NQ.out _).mono ?_
          rintro e v2 ⟨rfl, hb⟩
          have hs := FB32.step HS1.out hb
          have HS2 := Lib.hid hs
          clear hb c0 c1 c2 c3 c4
          obtain ⟨c0, c1, c2, c3, c4, c5, c6⟩ := hs
          clear c5 c6
          go_wp2_with fail
          refine (A0.out _).mono ?_
          rintro e w' ⟨rfl, rfl⟩
          go_wp2_with fail
          refine (NS.out _).mono ?_
          rintro e v3 ⟨rfl, hb⟩
          have hs := FB32.step HS2.out hb
          have HS3 := Lib.hid hs
          clear hb c0 c1 c2 c3 c4
          obtain ⟨c0, c1, c2, c3, c4, c5, c6⟩ := hs
          clear c5 c6
          go_wp2_with fail
          refine (ZS.out _).mono ?_
          rintro e v4 ⟨rfl, hb⟩
          have hs := FB32.step HS3.out hb
          have HS4 := Lib.hid hs
          clear hb c0 c1 c2 c3 c4
          obtain ⟨c0, c1, c2, c3, c4, c5, c6⟩ := hs
          clear c5 c6
          go_wp2_with fail
          go_ret
          exact ⟨rfl, below_trans' B1.out (FB32.below HS4.out)⟩
      · skip
        rw [hp] at NP
        generalize mul32 (flip32 x) y = m1 at *
        generalize mul32 x (flip32 y) = m2 at *
        rw [hq] at NQ
        generalize div32 (flip32 x) y = d1 at *
        generalize div32 x (flip32 y) = d2 at *
        rw [hs] at NS
        generalize add32 (flip32 x) (flip32 y) = a1 at *
        generalize flip32 (mul32 x y) = fp' at *
        generalize flip32 (div32 x y) = fq' at *
        generalize flip32 (add32 x y) = fs' at *
        generalize mul32 x y = p at *
        generalize div32 x y = q at *
        generalize add32 x y = s at *
        generalize flip32 x = gx at *
        generalize flip32 y = gy at *
        have w1 : IntKind.u64.wrap (p : Int) = (p : Int) := wrap_u64_nat (by omega)
        have w2 : IntKind.u64.wrap (q : Int) = (q : Int) := wrap_u64_nat (by omega)
        have w3 : IntKind.u64.wrap (s : Int) = (s : Int) := wrap_u64_nat (by omega)
        have M0 := Lib.hid M0
        have D0 := Lib.hid D0
        have A0 := Lib.hid A0
        have M1 := Lib.hid M1
        have M2 := Lib.hid M2
        have D1 := Lib.hid D1
        have D2 := Lib.hid D2
        have A1 := Lib.hid A1
        have NP := Lib.hid NP
        have NQ := Lib.hid NQ
        have NS := Lib.hid NS
        have ZS := Lib.hid ZS
        clear lx ly lp lq ls hx hy hp hq hs
        have B0 := Lib.hid (Below.refl w.heap.size w)
        go_enter Try.func11, Try.ntmps11
        go_wp2_with fail
        refine (M0.out _).mono ?_
        rintro e w' ⟨rfl, rfl⟩
        go_wp2_with fail
        refine (D0.out _).mono ?_
        rintro e w' ⟨rfl, rfl⟩
        go_wp2_with fail
        refine (fmt32_any _).mono ?_
        rintro e u1 ⟨rfl, hb⟩
        have B1 := Lib.hid (below_trans' B0.out hb)
        clear hb
        have HS0 := Lib.hid (FB32.start0 u1)
        go_wp2_with fail
        refine (NP.out _).mono ?_
        rintro e v1 ⟨rfl, hb⟩
        have hs := FB32.step HS0.out hb
        have HS1 := Lib.hid hs
        clear hb
        obtain ⟨c0, c1, c2, c3, c4, c5, c6⟩ := hs
        clear c5 c6
        go_wp2_with fail
        refine (NQ.out _).mono ?_
        rintro e v2 ⟨rfl, hb⟩
        have hs := FB32.step HS1.out hb
        have HS2 := Lib.hid hs
        clear hb c0 c1 c2 c3 c4
        obtain ⟨c0, c1, c2, c3, c4, c5, c6⟩ := hs
        clear c5 c6
        go_wp2_with fail
        refine (A0.out _).mono ?_
        rintro e w' ⟨rfl, rfl⟩
        go_wp2_with fail
        refine (NS.out _).mono ?_
        rintro e v3 ⟨rfl, hb⟩
        have hs := FB32.step HS2.out hb
        have HS3 := Lib.hid hs
        clear hb c0 c1 c2 c3 c4
        obtain ⟨c0, c1, c2, c3, c4, c5, c6⟩ := hs
        clear c5 c6
        go_wp2_with fail
        go_ret
        exact ⟨rfl, below_trans' B1.out (FB32.below HS3.out)⟩
end Go.Proofs.Ythbdijmoohfomaa.SF
