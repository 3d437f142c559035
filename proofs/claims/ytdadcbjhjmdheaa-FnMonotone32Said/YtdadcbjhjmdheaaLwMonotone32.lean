/-
  The walk of a law.
-/
import Derived.Test.YtdadcbjhjmdheaaWrap
import Derived.Test.YtdadcbjhjmdheaaAlikeW
import Derived.Test.YtdadcbjhjmdheaaFmtB
import Derived.Test.YtdadcbjhjmdheaaFrame
import Derived.Test.YtdadcbjhjmdheaaWrap32
import Derived.Test.YtdadcbjhjmdheaaAlg
import Derived.Test.YtdadcbjhjmdheaaCmpK
import Derived.Test.YtdadcbjhjmdheaaOrdC
import Derived.Test.YtdadcbjhjmdheaaAndN
namespace Go.Proofs.Ytdadcbjhjmdheaa.SF
open Go.ChangeShapes Go.WideShapes Go.ChangeAt Go.RowKit
set_option linter.unusedVariables false
set_option maxRecDepth 100000 in
set_option maxHeartbeats 4000000 in
theorem fnMonotone32 (x : Nat) (y : Nat) (z : Nat) (w : World) (hx : x < 4294967296) (hy : y < 4294967296) (hz : z < 4294967296) : Calls Try.prog 7 #[.int .u32 (x : Int), .int .u32 (y : Int), .int .u32 (z : Int)] w (LawPost w) := by
  have lz : mag32 z < 4294967296 := by have := mag_lt32 z; omega
  have nz : neg32 (mag32 z) = false := by have := mag_lt32 z; unfold neg32; exact decide_eq_false (by omega)
  have fz : bits .andNot .u32 (z : Int) 2147483648 = ((mag32 z : Nat) : Int) := andNot_sg32 hz
  have C : Hid (∀ w, Calls Try.prog 17 #[.int .u32 1065353216, .int .u32 1065353216] w (RetW (.int .u32 1073741824) w)) := Lib.hid fun w => by
    have := implAdd32 1065353216 1065353216 w (by omega) (by omega)
    rwa [add_one_one32] at this
  generalize mag32 z = z' at *
  have NX := fun w => fnan32_any x w hx
  have NY := fun w => fnan32_any y w hy
  have CM := fun w => fcmpS32_any x y w hx hy
  rw [cmpS_key32 hx hy] at CM
  have cx : IntKind.u64.wrap (x : Int) = (x : Int) := wrap_u64_nat (by omega)
  have cy : IntKind.u64.wrap (y : Int) = (y : Int) := wrap_u64_nat (by omega)
  cases nx : isNaN32 x
  · cases ny : isNaN32 y
    · rw [nx] at NX
      rw [ny] at NY
      by_cases ho : 0 < ordI (key32 x) (key32 y)
      · skip
        have hk : key32 y ≤ key32 x := Int.le_of_lt (ord_nle.mp ho)
        have d0 := decide_eq_true ho
        have ma := fun h1 h2 => add_mono32 hy hx hz hk h1 h2
        have mm := fun h1 h2 => mul_mono32 (z := z') nz hk h1 h2
        have la := add_lt32 hy hz
        have lb := add_lt32 hx hz
        have lc := mul_lt32 y z'
        have ld := mul_lt32 x z'
        have AP := fun w => implAdd32 y z w hy hz
        have AQ := fun w => implAdd32 x z w hx hz
        have MP := fun w => implMul32 y z' w hy lz
        have MQ := fun w => implMul32 x z' w hx lz
        have NA := fun w => fnan32_any (add32 y z) w la
        have NB := fun w => fnan32_any (add32 x z) w lb
        have NC := fun w => fnan32_any (mul32 y z') w lc
        have ND := fun w => fnan32_any (mul32 x z') w ld
        have CA := fun w => fcmpS32_any (add32 y z) (add32 x z) w la lb
        have CC := fun w => fcmpS32_any (mul32 y z') (mul32 x z') w lc ld
        rw [cmpS_key32 la lb] at CA
        rw [cmpS_key32 lc ld] at CC
        generalize add32 y z = a at *
        generalize add32 x z = b at *
        generalize mul32 y z' = c at *
        generalize mul32 x z' = d at *
        have wa : IntKind.u64.wrap (a : Int) = (a : Int) := wrap_u64_nat (by omega)
        have wb : IntKind.u64.wrap (b : Int) = (b : Int) := wrap_u64_nat (by omega)
        have wc : IntKind.u64.wrap (c : Int) = (c : Int) := wrap_u64_nat (by omega)
        have wd : IntKind.u64.wrap (d : Int) = (d : Int) := wrap_u64_nat (by omega)
        generalize ordI (key32 x) (key32 y) = o0 at *
        have d1 := fun h1 h2 => decide_eq_false (Int.not_lt.mpr (ord_le.mpr (ma h1 h2)))
        have d2 := fun h1 h2 => decide_eq_true (ord_le.mpr (mm h1 h2))
        generalize ordI (key32 a) (key32 b) = o1 at *
        generalize ordI (key32 c) (key32 d) = o2 at *
        clear ma mm hk ho hx hy hz nx ny la lb lc ld lz nz
        cases na : isNaN32 a
        · cases nb : isNaN32 b
          · rw [na] at NA
            rw [nb] at NB
            have d1' := d1 na nb
            cases nc : isNaN32 c
            · cases nd : isNaN32 d
              · skip
                rw [nd] at ND
                rw [nc] at NC
                have d2' := d2 nc nd
                clear d1 d2
                have NX := Lib.hid NX
                have NY := Lib.hid NY
                have CM := Lib.hid CM
                have AP := Lib.hid AP
                have AQ := Lib.hid AQ
                have MP := Lib.hid MP
                have MQ := Lib.hid MQ
                have NA := Lib.hid NA
                have NC := Lib.hid NC
                have NB := Lib.hid NB
                have CA := Lib.hid CA
                have ND := Lib.hid ND
                have CC := Lib.hid CC
                have B0 := Lib.hid (Below.refl w.heap.size w)
                go_enter Try.func7, Try.ntmps7
                go_wp2_with fail
                refine (fmt32_any _).mono ?_
                rintro e u1 ⟨rfl, hb⟩
                have B1 := Lib.hid (below_trans' B0.out hb)
                clear hb
                have HS0 := Lib.hid (FB32.start0 u1)
                go_wp2_with fail
                refine (C.out _).mono ?_
                rintro e w' ⟨rfl, rfl⟩
                go_wp2_with fail
                refine (NX.out _).mono ?_
                rintro e v1 ⟨rfl, hb⟩
                have hs := FB32.step HS0.out hb
                have HS1 := Lib.hid hs
                clear hb
                obtain ⟨c0, c1, c2, c3, c4, c5, c6⟩ := hs
                clear c5 c6
                go_wp2_with fail
                refine (NY.out _).mono ?_
                rintro e v2 ⟨rfl, hb⟩
                have hs := FB32.step HS1.out hb
                have HS2 := Lib.hid hs
                clear hb c0 c1 c2 c3 c4
                obtain ⟨c0, c1, c2, c3, c4, c5, c6⟩ := hs
                clear c5 c6
                go_wp2_with fail
                refine (CM.out _).mono ?_
                rintro e v3 ⟨rfl, hb⟩
                have hs := FB32.step HS2.out hb
                have HS3 := Lib.hid hs
                clear hb c0 c1 c2 c3 c4
                obtain ⟨c0, c1, c2, c3, c4, c5, c6⟩ := hs
                clear c5 c6
                go_wp2_with fail
                refine (AP.out _).mono ?_
                rintro e w' ⟨rfl, rfl⟩
                go_wp2_with fail
                refine (AQ.out _).mono ?_
                rintro e w' ⟨rfl, rfl⟩
                go_wp2_with fail
                refine (NA.out _).mono ?_
                rintro e v4 ⟨rfl, hb⟩
                have hs := FB32.step HS3.out hb
                have HS4 := Lib.hid hs
                clear hb c0 c1 c2 c3 c4
                obtain ⟨c0, c1, c2, c3, c4, c5, c6⟩ := hs
                clear c5 c6
                go_wp2_with fail
                refine (NB.out _).mono ?_
                rintro e v5 ⟨rfl, hb⟩
                have hs := FB32.step HS4.out hb
                have HS5 := Lib.hid hs
                clear hb c0 c1 c2 c3 c4
                obtain ⟨c0, c1, c2, c3, c4, c5, c6⟩ := hs
                clear c5 c6
                go_wp2_with fail
                refine (CA.out _).mono ?_
                rintro e v6 ⟨rfl, hb⟩
                have hs := FB32.step HS5.out hb
                have HS6 := Lib.hid hs
                clear hb c0 c1 c2 c3 c4
                obtain ⟨c0, c1, c2, c3, c4, c5, c6⟩ := hs
                clear c5 c6
                go_wp2_with fail
                refine (MP.out _).mono ?_
                rintro e w' ⟨rfl, rfl⟩
                go_wp2_with fail
                refine (MQ.out _).mono ?_
                rintro e w' ⟨rfl, rfl⟩
                go_wp2_with fail
                refine (NC.out _).mono ?_
                rintro e v7 ⟨rfl, hb⟩
                have hs := FB32.step HS6.out hb
                have HS7 := Lib.hid hs
                clear hb c0 c1 c2 c3 c4
                obtain ⟨c0, c1, c2, c3, c4, c5, c6⟩ := hs
                clear c5 c6
                go_wp2_with fail
                refine (ND.out _).mono ?_
                rintro e v8 ⟨rfl, hb⟩
                have hs := FB32.step HS7.out hb
                have HS8 := Lib.hid hs
                clear hb c0 c1 c2 c3 c4
                obtain ⟨c0, c1, c2, c3, c4, c5, c6⟩ := hs
                clear c5 c6
                go_wp2_with fail
                refine (CC.out _).mono ?_
                rintro e v9 ⟨rfl, hb⟩
                have hs := FB32.step HS8.out hb
                have HS9 := Lib.hid hs
                clear hb c0 c1 c2 c3 c4
                obtain ⟨c0, c1, c2, c3, c4, c5, c6⟩ := hs
                clear c5 c6
                go_wp2_with fail
                go_ret
                exact ⟨rfl, below_trans' B1.out (FB32.below HS9.out)⟩
              · skip
                rw [nd] at ND
                rw [nc] at NC
                clear d1 d2
                have NX := Lib.hid NX
                have NY := Lib.hid NY
                have CM := Lib.hid CM
                have AP := Lib.hid AP
                have AQ := Lib.hid AQ
                have MP := Lib.hid MP
                have MQ := Lib.hid MQ
                have NA := Lib.hid NA
                have NC := Lib.hid NC
                have NB := Lib.hid NB
                have CA := Lib.hid CA
                have ND := Lib.hid ND
                clear CC
                have B0 := Lib.hid (Below.refl w.heap.size w)
                go_enter Try.func7, Try.ntmps7
                go_wp2_with fail
                refine (fmt32_any _).mono ?_
                rintro e u1 ⟨rfl, hb⟩
                have B1 := Lib.hid (below_trans' B0.out hb)
                clear hb
                have HS0 := Lib.hid (FB32.start0 u1)
                go_wp2_with fail
                refine (C.out _).mono ?_
                rintro e w' ⟨rfl, rfl⟩
                go_wp2_with fail
                refine (NX.out _).mono ?_
                rintro e v1 ⟨rfl, hb⟩
                have hs := FB32.step HS0.out hb
                have HS1 := Lib.hid hs
                clear hb
                obtain ⟨c0, c1, c2, c3, c4, c5, c6⟩ := hs
                clear c5 c6
                go_wp2_with fail
                refine (NY.out _).mono ?_
                rintro e v2 ⟨rfl, hb⟩
                have hs := FB32.step HS1.out hb
                have HS2 := Lib.hid hs
                clear hb c0 c1 c2 c3 c4
                obtain ⟨c0, c1, c2, c3, c4, c5, c6⟩ := hs
                clear c5 c6
                go_wp2_with fail
                refine (CM.out _).mono ?_
                rintro e v3 ⟨rfl, hb⟩
                have hs := FB32.step HS2.out hb
                have HS3 := Lib.hid hs
                clear hb c0 c1 c2 c3 c4
                obtain ⟨c0, c1, c2, c3, c4, c5, c6⟩ := hs
                clear c5 c6
                go_wp2_with fail
                refine (AP.out _).mono ?_
                rintro e w' ⟨rfl, rfl⟩
                go_wp2_with fail
                refine (AQ.out _).mono ?_
                rintro e w' ⟨rfl, rfl⟩
                go_wp2_with fail
                refine (NA.out _).mono ?_
                rintro e v4 ⟨rfl, hb⟩
                have hs := FB32.step HS3.out hb
                have HS4 := Lib.hid hs
                clear hb c0 c1 c2 c3 c4
                obtain ⟨c0, c1, c2, c3, c4, c5, c6⟩ := hs
                clear c5 c6
                go_wp2_with fail
                refine (NB.out _).mono ?_
                rintro e v5 ⟨rfl, hb⟩
                have hs := FB32.step HS4.out hb
                have HS5 := Lib.hid hs
                clear hb c0 c1 c2 c3 c4
                obtain ⟨c0, c1, c2, c3, c4, c5, c6⟩ := hs
                clear c5 c6
                go_wp2_with fail
                refine (CA.out _).mono ?_
                rintro e v6 ⟨rfl, hb⟩
                have hs := FB32.step HS5.out hb
                have HS6 := Lib.hid hs
                clear hb c0 c1 c2 c3 c4
                obtain ⟨c0, c1, c2, c3, c4, c5, c6⟩ := hs
                clear c5 c6
                go_wp2_with fail
                refine (MP.out _).mono ?_
                rintro e w' ⟨rfl, rfl⟩
                go_wp2_with fail
                refine (MQ.out _).mono ?_
                rintro e w' ⟨rfl, rfl⟩
                go_wp2_with fail
                refine (NC.out _).mono ?_
                rintro e v7 ⟨rfl, hb⟩
                have hs := FB32.step HS6.out hb
                have HS7 := Lib.hid hs
                clear hb c0 c1 c2 c3 c4
                obtain ⟨c0, c1, c2, c3, c4, c5, c6⟩ := hs
                clear c5 c6
                go_wp2_with fail
                refine (ND.out _).mono ?_
                rintro e v8 ⟨rfl, hb⟩
                have hs := FB32.step HS7.out hb
                have HS8 := Lib.hid hs
                clear hb c0 c1 c2 c3 c4
                obtain ⟨c0, c1, c2, c3, c4, c5, c6⟩ := hs
                clear c5 c6
                go_wp2_with fail
                go_ret
                exact ⟨rfl, below_trans' B1.out (FB32.below HS8.out)⟩
            · skip
              rw [nc] at NC
              clear d1 d2
              have NX := Lib.hid NX
              have NY := Lib.hid NY
              have CM := Lib.hid CM
              have AP := Lib.hid AP
              have AQ := Lib.hid AQ
              have MP := Lib.hid MP
              have MQ := Lib.hid MQ
              have NA := Lib.hid NA
              have NC := Lib.hid NC
              have NB := Lib.hid NB
              have CA := Lib.hid CA
              clear ND CC
              have B0 := Lib.hid (Below.refl w.heap.size w)
              go_enter Try.func7, Try.ntmps7
              go_wp2_with fail
              refine (fmt32_any _).mono ?_
              rintro e u1 ⟨rfl, hb⟩
              have B1 := Lib.hid (below_trans' B0.out hb)
              clear hb
              have HS0 := Lib.hid (FB32.start0 u1)
              go_wp2_with fail
              refine (C.out _).mono ?_
              rintro e w' ⟨rfl, rfl⟩
              go_wp2_with fail
              refine (NX.out _).mono ?_
              rintro e v1 ⟨rfl, hb⟩
              have hs := FB32.step HS0.out hb
              have HS1 := Lib.hid hs
              clear hb
              obtain ⟨c0, c1, c2, c3, c4, c5, c6⟩ := hs
              clear c5 c6
              go_wp2_with fail
              refine (NY.out _).mono ?_
              rintro e v2 ⟨rfl, hb⟩
              have hs := FB32.step HS1.out hb
              have HS2 := Lib.hid hs
              clear hb c0 c1 c2 c3 c4
              obtain ⟨c0, c1, c2, c3, c4, c5, c6⟩ := hs
              clear c5 c6
              go_wp2_with fail
              refine (CM.out _).mono ?_
              rintro e v3 ⟨rfl, hb⟩
              have hs := FB32.step HS2.out hb
              have HS3 := Lib.hid hs
              clear hb c0 c1 c2 c3 c4
              obtain ⟨c0, c1, c2, c3, c4, c5, c6⟩ := hs
              clear c5 c6
              go_wp2_with fail
              refine (AP.out _).mono ?_
              rintro e w' ⟨rfl, rfl⟩
              go_wp2_with fail
              refine (AQ.out _).mono ?_
              rintro e w' ⟨rfl, rfl⟩
              go_wp2_with fail
              refine (NA.out _).mono ?_
              rintro e v4 ⟨rfl, hb⟩
              have hs := FB32.step HS3.out hb
              have HS4 := Lib.hid hs
              clear hb c0 c1 c2 c3 c4
              obtain ⟨c0, c1, c2, c3, c4, c5, c6⟩ := hs
              clear c5 c6
              go_wp2_with fail
              refine (NB.out _).mono ?_
              rintro e v5 ⟨rfl, hb⟩
              have hs := FB32.step HS4.out hb
              have HS5 := Lib.hid hs
              clear hb c0 c1 c2 c3 c4
              obtain ⟨c0, c1, c2, c3, c4, c5, c6⟩ := hs
              clear c5 c6
              go_wp2_with fail
              refine (CA.out _).mono ?_
              rintro e v6 ⟨rfl, hb⟩
              have hs := FB32.step HS5.out hb
              have HS6 := Lib.hid hs
              clear hb c0 c1 c2 c3 c4
              obtain ⟨c0, c1, c2, c3, c4, c5, c6⟩ := hs
              clear c5 c6
              go_wp2_with fail
              refine (MP.out _).mono ?_
              rintro e w' ⟨rfl, rfl⟩
              go_wp2_with fail
              refine (MQ.out _).mono ?_
              rintro e w' ⟨rfl, rfl⟩
              go_wp2_with fail
              refine (NC.out _).mono ?_
              rintro e v7 ⟨rfl, hb⟩
              have hs := FB32.step HS6.out hb
              have HS7 := Lib.hid hs
              clear hb c0 c1 c2 c3 c4
              obtain ⟨c0, c1, c2, c3, c4, c5, c6⟩ := hs
              clear c5 c6
              go_wp2_with fail
              go_ret
              exact ⟨rfl, below_trans' B1.out (FB32.below HS7.out)⟩
          · rw [na] at NA
            rw [nb] at NB
            cases nc : isNaN32 c
            · cases nd : isNaN32 d
              · skip
                rw [nd] at ND
                rw [nc] at NC
                have d2' := d2 nc nd
                clear d1 d2
                have NX := Lib.hid NX
                have NY := Lib.hid NY
                have CM := Lib.hid CM
                have AP := Lib.hid AP
                have AQ := Lib.hid AQ
                have MP := Lib.hid MP
                have MQ := Lib.hid MQ
                have NA := Lib.hid NA
                have NC := Lib.hid NC
                have NB := Lib.hid NB
                have ND := Lib.hid ND
                have CC := Lib.hid CC
                clear CA
                have B0 := Lib.hid (Below.refl w.heap.size w)
                go_enter Try.func7, Try.ntmps7
                go_wp2_with fail
                refine (fmt32_any _).mono ?_
                rintro e u1 ⟨rfl, hb⟩
                have B1 := Lib.hid (below_trans' B0.out hb)
                clear hb
                have HS0 := Lib.hid (FB32.start0 u1)
                go_wp2_with fail
                refine (C.out _).mono ?_
                rintro e w' ⟨rfl, rfl⟩
                go_wp2_with fail
                refine (NX.out _).mono ?_
                rintro e v1 ⟨rfl, hb⟩
                have hs := FB32.step HS0.out hb
                have HS1 := Lib.hid hs
                clear hb
                obtain ⟨c0, c1, c2, c3, c4, c5, c6⟩ := hs
                clear c5 c6
                go_wp2_with fail
                refine (NY.out _).mono ?_
                rintro e v2 ⟨rfl, hb⟩
                have hs := FB32.step HS1.out hb
                have HS2 := Lib.hid hs
                clear hb c0 c1 c2 c3 c4
                obtain ⟨c0, c1, c2, c3, c4, c5, c6⟩ := hs
                clear c5 c6
                go_wp2_with fail
                refine (CM.out _).mono ?_
                rintro e v3 ⟨rfl, hb⟩
                have hs := FB32.step HS2.out hb
                have HS3 := Lib.hid hs
                clear hb c0 c1 c2 c3 c4
                obtain ⟨c0, c1, c2, c3, c4, c5, c6⟩ := hs
                clear c5 c6
                go_wp2_with fail
                refine (AP.out _).mono ?_
                rintro e w' ⟨rfl, rfl⟩
                go_wp2_with fail
                refine (AQ.out _).mono ?_
                rintro e w' ⟨rfl, rfl⟩
                go_wp2_with fail
                refine (NA.out _).mono ?_
                rintro e v4 ⟨rfl, hb⟩
                have hs := FB32.step HS3.out hb
                have HS4 := Lib.hid hs
                clear hb c0 c1 c2 c3 c4
                obtain ⟨c0, c1, c2, c3, c4, c5, c6⟩ := hs
                clear c5 c6
                go_wp2_with fail
                refine (NB.out _).mono ?_
                rintro e v5 ⟨rfl, hb⟩
                have hs := FB32.step HS4.out hb
                have HS5 := Lib.hid hs
                clear hb c0 c1 c2 c3 c4
                obtain ⟨c0, c1, c2, c3, c4, c5, c6⟩ := hs
                clear c5 c6
                go_wp2_with fail
                refine (MP.out _).mono ?_
                rintro e w' ⟨rfl, rfl⟩
                go_wp2_with fail
                refine (MQ.out _).mono ?_
                rintro e w' ⟨rfl, rfl⟩
                go_wp2_with fail
                refine (NC.out _).mono ?_
                rintro e v6 ⟨rfl, hb⟩
                have hs := FB32.step HS5.out hb
                have HS6 := Lib.hid hs
                clear hb c0 c1 c2 c3 c4
                obtain ⟨c0, c1, c2, c3, c4, c5, c6⟩ := hs
                clear c5 c6
                go_wp2_with fail
                refine (ND.out _).mono ?_
                rintro e v7 ⟨rfl, hb⟩
                have hs := FB32.step HS6.out hb
                have HS7 := Lib.hid hs
                clear hb c0 c1 c2 c3 c4
                obtain ⟨c0, c1, c2, c3, c4, c5, c6⟩ := hs
                clear c5 c6
                go_wp2_with fail
                refine (CC.out _).mono ?_
                rintro e v8 ⟨rfl, hb⟩
                have hs := FB32.step HS7.out hb
                have HS8 := Lib.hid hs
                clear hb c0 c1 c2 c3 c4
                obtain ⟨c0, c1, c2, c3, c4, c5, c6⟩ := hs
                clear c5 c6
                go_wp2_with fail
                go_ret
                exact ⟨rfl, below_trans' B1.out (FB32.below HS8.out)⟩
              · skip
                rw [nd] at ND
                rw [nc] at NC
                clear d1 d2
                have NX := Lib.hid NX
                have NY := Lib.hid NY
                have CM := Lib.hid CM
                have AP := Lib.hid AP
                have AQ := Lib.hid AQ
                have MP := Lib.hid MP
                have MQ := Lib.hid MQ
                have NA := Lib.hid NA
                have NC := Lib.hid NC
                have NB := Lib.hid NB
                have ND := Lib.hid ND
                clear CA CC
                have B0 := Lib.hid (Below.refl w.heap.size w)
                go_enter Try.func7, Try.ntmps7
                go_wp2_with fail
                refine (fmt32_any _).mono ?_
                rintro e u1 ⟨rfl, hb⟩
                have B1 := Lib.hid (below_trans' B0.out hb)
                clear hb
                have HS0 := Lib.hid (FB32.start0 u1)
                go_wp2_with fail
                refine (C.out _).mono ?_
                rintro e w' ⟨rfl, rfl⟩
                go_wp2_with fail
                refine (NX.out _).mono ?_
                rintro e v1 ⟨rfl, hb⟩
                have hs := FB32.step HS0.out hb
                have HS1 := Lib.hid hs
                clear hb
                obtain ⟨c0, c1, c2, c3, c4, c5, c6⟩ := hs
                clear c5 c6
                go_wp2_with fail
                refine (NY.out _).mono ?_
                rintro e v2 ⟨rfl, hb⟩
                have hs := FB32.step HS1.out hb
                have HS2 := Lib.hid hs
                clear hb c0 c1 c2 c3 c4
                obtain ⟨c0, c1, c2, c3, c4, c5, c6⟩ := hs
                clear c5 c6
                go_wp2_with fail
                refine (CM.out _).mono ?_
                rintro e v3 ⟨rfl, hb⟩
                have hs := FB32.step HS2.out hb
                have HS3 := Lib.hid hs
                clear hb c0 c1 c2 c3 c4
                obtain ⟨c0, c1, c2, c3, c4, c5, c6⟩ := hs
                clear c5 c6
                go_wp2_with fail
                refine (AP.out _).mono ?_
                rintro e w' ⟨rfl, rfl⟩
                go_wp2_with fail
                refine (AQ.out _).mono ?_
                rintro e w' ⟨rfl, rfl⟩
                go_wp2_with fail
                refine (NA.out _).mono ?_
                rintro e v4 ⟨rfl, hb⟩
                have hs := FB32.step HS3.out hb
                have HS4 := Lib.hid hs
                clear hb c0 c1 c2 c3 c4
                obtain ⟨c0, c1, c2, c3, c4, c5, c6⟩ := hs
                clear c5 c6
                go_wp2_with fail
                refine (NB.out _).mono ?_
                rintro e v5 ⟨rfl, hb⟩
                have hs := FB32.step HS4.out hb
                have HS5 := Lib.hid hs
                clear hb c0 c1 c2 c3 c4
                obtain ⟨c0, c1, c2, c3, c4, c5, c6⟩ := hs
                clear c5 c6
                go_wp2_with fail
                refine (MP.out _).mono ?_
                rintro e w' ⟨rfl, rfl⟩
                go_wp2_with fail
                refine (MQ.out _).mono ?_
                rintro e w' ⟨rfl, rfl⟩
                go_wp2_with fail
                refine (NC.out _).mono ?_
                rintro e v6 ⟨rfl, hb⟩
                have hs := FB32.step HS5.out hb
                have HS6 := Lib.hid hs
                clear hb c0 c1 c2 c3 c4
                obtain ⟨c0, c1, c2, c3, c4, c5, c6⟩ := hs
                clear c5 c6
                go_wp2_with fail
                refine (ND.out _).mono ?_
                rintro e v7 ⟨rfl, hb⟩
                have hs := FB32.step HS6.out hb
                have HS7 := Lib.hid hs
                clear hb c0 c1 c2 c3 c4
                obtain ⟨c0, c1, c2, c3, c4, c5, c6⟩ := hs
                clear c5 c6
                go_wp2_with fail
                go_ret
                exact ⟨rfl, below_trans' B1.out (FB32.below HS7.out)⟩
            · skip
              rw [nc] at NC
              clear d1 d2
              have NX := Lib.hid NX
              have NY := Lib.hid NY
              have CM := Lib.hid CM
              have AP := Lib.hid AP
              have AQ := Lib.hid AQ
              have MP := Lib.hid MP
              have MQ := Lib.hid MQ
              have NA := Lib.hid NA
              have NC := Lib.hid NC
              have NB := Lib.hid NB
              clear CA ND CC
              have B0 := Lib.hid (Below.refl w.heap.size w)
              go_enter Try.func7, Try.ntmps7
              go_wp2_with fail
              refine (fmt32_any _).mono ?_
              rintro e u1 ⟨rfl, hb⟩
              have B1 := Lib.hid (below_trans' B0.out hb)
              clear hb
              have HS0 := Lib.hid (FB32.start0 u1)
              go_wp2_with fail
              refine (C.out _).mono ?_
              rintro e w' ⟨rfl, rfl⟩
              go_wp2_with fail
              refine (NX.out _).mono ?_
              rintro e v1 ⟨rfl, hb⟩
              have hs := FB32.step HS0.out hb
              have HS1 := Lib.hid hs
              clear hb
              obtain ⟨c0, c1, c2, c3, c4, c5, c6⟩ := hs
              clear c5 c6
              go_wp2_with fail
              refine (NY.out _).mono ?_
              rintro e v2 ⟨rfl, hb⟩
              have hs := FB32.step HS1.out hb
              have HS2 := Lib.hid hs
              clear hb c0 c1 c2 c3 c4
              obtain ⟨c0, c1, c2, c3, c4, c5, c6⟩ := hs
              clear c5 c6
              go_wp2_with fail
              refine (CM.out _).mono ?_
              rintro e v3 ⟨rfl, hb⟩
              have hs := FB32.step HS2.out hb
              have HS3 := Lib.hid hs
              clear hb c0 c1 c2 c3 c4
              obtain ⟨c0, c1, c2, c3, c4, c5, c6⟩ := hs
              clear c5 c6
              go_wp2_with fail
              refine (AP.out _).mono ?_
              rintro e w' ⟨rfl, rfl⟩
              go_wp2_with fail
              refine (AQ.out _).mono ?_
              rintro e w' ⟨rfl, rfl⟩
              go_wp2_with fail
              refine (NA.out _).mono ?_
              rintro e v4 ⟨rfl, hb⟩
              have hs := FB32.step HS3.out hb
              have HS4 := Lib.hid hs
              clear hb c0 c1 c2 c3 c4
              obtain ⟨c0, c1, c2, c3, c4, c5, c6⟩ := hs
              clear c5 c6
              go_wp2_with fail
              refine (NB.out _).mono ?_
              rintro e v5 ⟨rfl, hb⟩
              have hs := FB32.step HS4.out hb
              have HS5 := Lib.hid hs
              clear hb c0 c1 c2 c3 c4
              obtain ⟨c0, c1, c2, c3, c4, c5, c6⟩ := hs
              clear c5 c6
              go_wp2_with fail
              refine (MP.out _).mono ?_
              rintro e w' ⟨rfl, rfl⟩
              go_wp2_with fail
              refine (MQ.out _).mono ?_
              rintro e w' ⟨rfl, rfl⟩
              go_wp2_with fail
              refine (NC.out _).mono ?_
              rintro e v6 ⟨rfl, hb⟩
              have hs := FB32.step HS5.out hb
              have HS6 := Lib.hid hs
              clear hb c0 c1 c2 c3 c4
              obtain ⟨c0, c1, c2, c3, c4, c5, c6⟩ := hs
              clear c5 c6
              go_wp2_with fail
              go_ret
              exact ⟨rfl, below_trans' B1.out (FB32.below HS6.out)⟩
        · rw [na] at NA
          cases nc : isNaN32 c
          · cases nd : isNaN32 d
            · skip
              rw [nd] at ND
              rw [nc] at NC
              have d2' := d2 nc nd
              clear d1 d2
              have NX := Lib.hid NX
              have NY := Lib.hid NY
              have CM := Lib.hid CM
              have AP := Lib.hid AP
              have AQ := Lib.hid AQ
              have MP := Lib.hid MP
              have MQ := Lib.hid MQ
              have NA := Lib.hid NA
              have NC := Lib.hid NC
              have ND := Lib.hid ND
              have CC := Lib.hid CC
              clear NB CA
              have B0 := Lib.hid (Below.refl w.heap.size w)
              go_enter Try.func7, Try.ntmps7
              go_wp2_with fail
              refine (fmt32_any _).mono ?_
              rintro e u1 ⟨rfl, hb⟩
              have B1 := Lib.hid (below_trans' B0.out hb)
              clear hb
              have HS0 := Lib.hid (FB32.start0 u1)
              go_wp2_with fail
              refine (C.out _).mono ?_
              rintro e w' ⟨rfl, rfl⟩
              go_wp2_with fail
              refine (NX.out _).mono ?_
              rintro e v1 ⟨rfl, hb⟩
              have hs := FB32.step HS0.out hb
              have HS1 := Lib.hid hs
              clear hb
              obtain ⟨c0, c1, c2, c3, c4, c5, c6⟩ := hs
              clear c5 c6
              go_wp2_with fail
              refine (NY.out _).mono ?_
              rintro e v2 ⟨rfl, hb⟩
              have hs := FB32.step HS1.out hb
              have HS2 := Lib.hid hs
              clear hb c0 c1 c2 c3 c4
              obtain ⟨c0, c1, c2, c3, c4, c5, c6⟩ := hs
              clear c5 c6
              go_wp2_with fail
              refine (CM.out _).mono ?_
              rintro e v3 ⟨rfl, hb⟩
              have hs := FB32.step HS2.out hb
              have HS3 := Lib.hid hs
              clear hb c0 c1 c2 c3 c4
              obtain ⟨c0, c1, c2, c3, c4, c5, c6⟩ := hs
              clear c5 c6
              go_wp2_with fail
              refine (AP.out _).mono ?_
              rintro e w' ⟨rfl, rfl⟩
              go_wp2_with fail
              refine (AQ.out _).mono ?_
              rintro e w' ⟨rfl, rfl⟩
              go_wp2_with fail
              refine (NA.out _).mono ?_
              rintro e v4 ⟨rfl, hb⟩
              have hs := FB32.step HS3.out hb
              have HS4 := Lib.hid hs
              clear hb c0 c1 c2 c3 c4
              obtain ⟨c0, c1, c2, c3, c4, c5, c6⟩ := hs
              clear c5 c6
              go_wp2_with fail
              refine (MP.out _).mono ?_
              rintro e w' ⟨rfl, rfl⟩
              go_wp2_with fail
              refine (MQ.out _).mono ?_
              rintro e w' ⟨rfl, rfl⟩
              go_wp2_with fail
              refine (NC.out _).mono ?_
              rintro e v5 ⟨rfl, hb⟩
              have hs := FB32.step HS4.out hb
              have HS5 := Lib.hid hs
              clear hb c0 c1 c2 c3 c4
              obtain ⟨c0, c1, c2, c3, c4, c5, c6⟩ := hs
              clear c5 c6
              go_wp2_with fail
              refine (ND.out _).mono ?_
              rintro e v6 ⟨rfl, hb⟩
              have hs := FB32.step HS5.out hb
              have HS6 := Lib.hid hs
              clear hb c0 c1 c2 c3 c4
              obtain ⟨c0, c1, c2, c3, c4, c5, c6⟩ := hs
              clear c5 c6
              go_wp2_with fail
              refine (CC.out _).mono ?_
              rintro e v7 ⟨rfl, hb⟩
              have hs := FB32.step HS6.out hb
              have HS7 := Lib.hid hs
              clear hb c0 c1 c2 c3 c4
              obtain ⟨c0, c1, c2, c3, c4, c5, c6⟩ := hs
              clear c5 c6
              go_wp2_with fail
              go_ret
              exact ⟨rfl, below_trans' B1.out (FB32.below HS7.out)⟩
            · skip
              rw [nd] at ND
              rw [nc] at NC
              clear d1 d2
              have NX := Lib.hid NX
              have NY := Lib.hid NY
              have CM := Lib.hid CM
              have AP := Lib.hid AP
              have AQ := Lib.hid AQ
              have MP := Lib.hid MP
              have MQ := Lib.hid MQ
              have NA := Lib.hid NA
              have NC := Lib.hid NC
              have ND := Lib.hid ND
              clear NB CA CC
              have B0 := Lib.hid (Below.refl w.heap.size w)
              go_enter Try.func7, Try.ntmps7
              go_wp2_with fail
              refine (fmt32_any _).mono ?_
              rintro e u1 ⟨rfl, hb⟩
              have B1 := Lib.hid (below_trans' B0.out hb)
              clear hb
              have HS0 := Lib.hid (FB32.start0 u1)
              go_wp2_with fail
              refine (C.out _).mono ?_
              rintro e w' ⟨rfl, rfl⟩
              go_wp2_with fail
              refine (NX.out _).mono ?_
              rintro e v1 ⟨rfl, hb⟩
              have hs := FB32.step HS0.out hb
              have HS1 := Lib.hid hs
              clear hb
              obtain ⟨c0, c1, c2, c3, c4, c5, c6⟩ := hs
              clear c5 c6
              go_wp2_with fail
              refine (NY.out _).mono ?_
              rintro e v2 ⟨rfl, hb⟩
              have hs := FB32.step HS1.out hb
              have HS2 := Lib.hid hs
              clear hb c0 c1 c2 c3 c4
              obtain ⟨c0, c1, c2, c3, c4, c5, c6⟩ := hs
              clear c5 c6
              go_wp2_with fail
              refine (CM.out _).mono ?_
              rintro e v3 ⟨rfl, hb⟩
              have hs := FB32.step HS2.out hb
              have HS3 := Lib.hid hs
              clear hb c0 c1 c2 c3 c4
              obtain ⟨c0, c1, c2, c3, c4, c5, c6⟩ := hs
              clear c5 c6
              go_wp2_with fail
              refine (AP.out _).mono ?_
              rintro e w' ⟨rfl, rfl⟩
              go_wp2_with fail
              refine (AQ.out _).mono ?_
              rintro e w' ⟨rfl, rfl⟩
              go_wp2_with fail
              refine (NA.out _).mono ?_
              rintro e v4 ⟨rfl, hb⟩
              have hs := FB32.step HS3.out hb
              have HS4 := Lib.hid hs
              clear hb c0 c1 c2 c3 c4
              obtain ⟨c0, c1, c2, c3, c4, c5, c6⟩ := hs
              clear c5 c6
              go_wp2_with fail
              refine (MP.out _).mono ?_
              rintro e w' ⟨rfl, rfl⟩
              go_wp2_with fail
              refine (MQ.out _).mono ?_
              rintro e w' ⟨rfl, rfl⟩
              go_wp2_with fail
              refine (NC.out _).mono ?_
              rintro e v5 ⟨rfl, hb⟩
              have hs := FB32.step HS4.out hb
              have HS5 := Lib.hid hs
              clear hb c0 c1 c2 c3 c4
              obtain ⟨c0, c1, c2, c3, c4, c5, c6⟩ := hs
              clear c5 c6
              go_wp2_with fail
              refine (ND.out _).mono ?_
              rintro e v6 ⟨rfl, hb⟩
              have hs := FB32.step HS5.out hb
              have HS6 := Lib.hid hs
              clear hb c0 c1 c2 c3 c4
              obtain ⟨c0, c1, c2, c3, c4, c5, c6⟩ := hs
              clear c5 c6
              go_wp2_with fail
              go_ret
              exact ⟨rfl, below_trans' B1.out (FB32.below HS6.out)⟩
          · skip
            rw [nc] at NC
            clear d1 d2
            have NX := Lib.hid NX
            have NY := Lib.hid NY
            have CM := Lib.hid CM
            have AP := Lib.hid AP
            have AQ := Lib.hid AQ
            have MP := Lib.hid MP
            have MQ := Lib.hid MQ
            have NA := Lib.hid NA
            have NC := Lib.hid NC
            clear NB CA ND CC
            have B0 := Lib.hid (Below.refl w.heap.size w)
            go_enter Try.func7, Try.ntmps7
            go_wp2_with fail
            refine (fmt32_any _).mono ?_
            rintro e u1 ⟨rfl, hb⟩
            have B1 := Lib.hid (below_trans' B0.out hb)
            clear hb
            have HS0 := Lib.hid (FB32.start0 u1)
            go_wp2_with fail
            refine (C.out _).mono ?_
            rintro e w' ⟨rfl, rfl⟩
            go_wp2_with fail
            refine (NX.out _).mono ?_
            rintro e v1 ⟨rfl, hb⟩
            have hs := FB32.step HS0.out hb
            have HS1 := Lib.hid hs
            clear hb
            obtain ⟨c0, c1, c2, c3, c4, c5, c6⟩ := hs
            clear c5 c6
            go_wp2_with fail
            refine (NY.out _).mono ?_
            rintro e v2 ⟨rfl, hb⟩
            have hs := FB32.step HS1.out hb
            have HS2 := Lib.hid hs
            clear hb c0 c1 c2 c3 c4
            obtain ⟨c0, c1, c2, c3, c4, c5, c6⟩ := hs
            clear c5 c6
            go_wp2_with fail
            refine (CM.out _).mono ?_
            rintro e v3 ⟨rfl, hb⟩
            have hs := FB32.step HS2.out hb
            have HS3 := Lib.hid hs
            clear hb c0 c1 c2 c3 c4
            obtain ⟨c0, c1, c2, c3, c4, c5, c6⟩ := hs
            clear c5 c6
            go_wp2_with fail
            refine (AP.out _).mono ?_
            rintro e w' ⟨rfl, rfl⟩
            go_wp2_with fail
            refine (AQ.out _).mono ?_
            rintro e w' ⟨rfl, rfl⟩
            go_wp2_with fail
            refine (NA.out _).mono ?_
            rintro e v4 ⟨rfl, hb⟩
            have hs := FB32.step HS3.out hb
            have HS4 := Lib.hid hs
            clear hb c0 c1 c2 c3 c4
            obtain ⟨c0, c1, c2, c3, c4, c5, c6⟩ := hs
            clear c5 c6
            go_wp2_with fail
            refine (MP.out _).mono ?_
            rintro e w' ⟨rfl, rfl⟩
            go_wp2_with fail
            refine (MQ.out _).mono ?_
            rintro e w' ⟨rfl, rfl⟩
            go_wp2_with fail
            refine (NC.out _).mono ?_
            rintro e v5 ⟨rfl, hb⟩
            have hs := FB32.step HS4.out hb
            have HS5 := Lib.hid hs
            clear hb c0 c1 c2 c3 c4
            obtain ⟨c0, c1, c2, c3, c4, c5, c6⟩ := hs
            clear c5 c6
            go_wp2_with fail
            go_ret
            exact ⟨rfl, below_trans' B1.out (FB32.below HS5.out)⟩
      · skip
        have hk : key32 x ≤ key32 y := ord_le.mp (by omega)
        have d0 := decide_eq_false ho
        have ma := fun h1 h2 => add_mono32 hx hy hz hk h1 h2
        have mm := fun h1 h2 => mul_mono32 (z := z') nz hk h1 h2
        have la := add_lt32 hx hz
        have lb := add_lt32 hy hz
        have lc := mul_lt32 x z'
        have ld := mul_lt32 y z'
        have AP := fun w => implAdd32 x z w hx hz
        have AQ := fun w => implAdd32 y z w hy hz
        have MP := fun w => implMul32 x z' w hx lz
        have MQ := fun w => implMul32 y z' w hy lz
        have NA := fun w => fnan32_any (add32 x z) w la
        have NB := fun w => fnan32_any (add32 y z) w lb
        have NC := fun w => fnan32_any (mul32 x z') w lc
        have ND := fun w => fnan32_any (mul32 y z') w ld
        have CA := fun w => fcmpS32_any (add32 x z) (add32 y z) w la lb
        have CC := fun w => fcmpS32_any (mul32 x z') (mul32 y z') w lc ld
        rw [cmpS_key32 la lb] at CA
        rw [cmpS_key32 lc ld] at CC
        generalize add32 x z = a at *
        generalize add32 y z = b at *
        generalize mul32 x z' = c at *
        generalize mul32 y z' = d at *
        have wa : IntKind.u64.wrap (a : Int) = (a : Int) := wrap_u64_nat (by omega)
        have wb : IntKind.u64.wrap (b : Int) = (b : Int) := wrap_u64_nat (by omega)
        have wc : IntKind.u64.wrap (c : Int) = (c : Int) := wrap_u64_nat (by omega)
        have wd : IntKind.u64.wrap (d : Int) = (d : Int) := wrap_u64_nat (by omega)
        generalize ordI (key32 x) (key32 y) = o0 at *
        have d1 := fun h1 h2 => decide_eq_false (Int.not_lt.mpr (ord_le.mpr (ma h1 h2)))
        have d2 := fun h1 h2 => decide_eq_true (ord_le.mpr (mm h1 h2))
        generalize ordI (key32 a) (key32 b) = o1 at *
        generalize ordI (key32 c) (key32 d) = o2 at *
        clear ma mm hk ho hx hy hz nx ny la lb lc ld lz nz
        cases na : isNaN32 a
        · cases nb : isNaN32 b
          · rw [na] at NA
            rw [nb] at NB
            have d1' := d1 na nb
            cases nc : isNaN32 c
            · cases nd : isNaN32 d
              · skip
                rw [nd] at ND
                rw [nc] at NC
                have d2' := d2 nc nd
                clear d1 d2
                have NX := Lib.hid NX
                have NY := Lib.hid NY
                have CM := Lib.hid CM
                have AP := Lib.hid AP
                have AQ := Lib.hid AQ
                have MP := Lib.hid MP
                have MQ := Lib.hid MQ
                have NA := Lib.hid NA
                have NC := Lib.hid NC
                have NB := Lib.hid NB
                have CA := Lib.hid CA
                have ND := Lib.hid ND
                have CC := Lib.hid CC
                have B0 := Lib.hid (Below.refl w.heap.size w)
                go_enter Try.func7, Try.ntmps7
                go_wp2_with fail
                refine (fmt32_any _).mono ?_
                rintro e u1 ⟨rfl, hb⟩
                have B1 := Lib.hid (below_trans' B0.out hb)
                clear hb
                have HS0 := Lib.hid (FB32.start0 u1)
                go_wp2_with fail
                refine (C.out _).mono ?_
                rintro e w' ⟨rfl, rfl⟩
                go_wp2_with fail
                refine (NX.out _).mono ?_
                rintro e v1 ⟨rfl, hb⟩
                have hs := FB32.step HS0.out hb
                have HS1 := Lib.hid hs
                clear hb
                obtain ⟨c0, c1, c2, c3, c4, c5, c6⟩ := hs
                clear c5 c6
                go_wp2_with fail
                refine (NY.out _).mono ?_
                rintro e v2 ⟨rfl, hb⟩
                have hs := FB32.step HS1.out hb
                have HS2 := Lib.hid hs
                clear hb c0 c1 c2 c3 c4
                obtain ⟨c0, c1, c2, c3, c4, c5, c6⟩ := hs
                clear c5 c6
                go_wp2_with fail
                refine (CM.out _).mono ?_
                rintro e v3 ⟨rfl, hb⟩
                have hs := FB32.step HS2.out hb
                have HS3 := Lib.hid hs
                clear hb c0 c1 c2 c3 c4
                obtain ⟨c0, c1, c2, c3, c4, c5, c6⟩ := hs
                clear c5 c6
                go_wp2_with fail
                refine (AP.out _).mono ?_
                rintro e w' ⟨rfl, rfl⟩
                go_wp2_with fail
                refine (AQ.out _).mono ?_
                rintro e w' ⟨rfl, rfl⟩
                go_wp2_with fail
                refine (NA.out _).mono ?_
                rintro e v4 ⟨rfl, hb⟩
                have hs := FB32.step HS3.out hb
                have HS4 := Lib.hid hs
                clear hb c0 c1 c2 c3 c4
                obtain ⟨c0, c1, c2, c3, c4, c5, c6⟩ := hs
                clear c5 c6
                go_wp2_with fail
                refine (NB.out _).mono ?_
                rintro e v5 ⟨rfl, hb⟩
                have hs := FB32.step HS4.out hb
                have HS5 := Lib.hid hs
                clear hb c0 c1 c2 c3 c4
                obtain ⟨c0, c1, c2, c3, c4, c5, c6⟩ := hs
                clear c5 c6
                go_wp2_with fail
                refine (CA.out _).mono ?_
                rintro e v6 ⟨rfl, hb⟩
                have hs := FB32.step HS5.out hb
                have HS6 := Lib.hid hs
                clear hb c0 c1 c2 c3 c4
                obtain ⟨c0, c1, c2, c3, c4, c5, c6⟩ := hs
                clear c5 c6
                go_wp2_with fail
                refine (MP.out _).mono ?_
                rintro e w' ⟨rfl, rfl⟩
                go_wp2_with fail
                refine (MQ.out _).mono ?_
                rintro e w' ⟨rfl, rfl⟩
                go_wp2_with fail
                refine (NC.out _).mono ?_
                rintro e v7 ⟨rfl, hb⟩
                have hs := FB32.step HS6.out hb
                have HS7 := Lib.hid hs
                clear hb c0 c1 c2 c3 c4
                obtain ⟨c0, c1, c2, c3, c4, c5, c6⟩ := hs
                clear c5 c6
                go_wp2_with fail
                refine (ND.out _).mono ?_
                rintro e v8 ⟨rfl, hb⟩
                have hs := FB32.step HS7.out hb
                have HS8 := Lib.hid hs
                clear hb c0 c1 c2 c3 c4
                obtain ⟨c0, c1, c2, c3, c4, c5, c6⟩ := hs
                clear c5 c6
                go_wp2_with fail
                refine (CC.out _).mono ?_
                rintro e v9 ⟨rfl, hb⟩
                have hs := FB32.step HS8.out hb
                have HS9 := Lib.hid hs
                clear hb c0 c1 c2 c3 c4
                obtain ⟨c0, c1, c2, c3, c4, c5, c6⟩ := hs
                clear c5 c6
                go_wp2_with fail
                go_ret
                exact ⟨rfl, below_trans' B1.out (FB32.below HS9.out)⟩
              · skip
                rw [nd] at ND
                rw [nc] at NC
                clear d1 d2
                have NX := Lib.hid NX
                have NY := Lib.hid NY
                have CM := Lib.hid CM
                have AP := Lib.hid AP
                have AQ := Lib.hid AQ
                have MP := Lib.hid MP
                have MQ := Lib.hid MQ
                have NA := Lib.hid NA
                have NC := Lib.hid NC
                have NB := Lib.hid NB
                have CA := Lib.hid CA
                have ND := Lib.hid ND
                clear CC
                have B0 := Lib.hid (Below.refl w.heap.size w)
                go_enter Try.func7, Try.ntmps7
                go_wp2_with fail
                refine (fmt32_any _).mono ?_
                rintro e u1 ⟨rfl, hb⟩
                have B1 := Lib.hid (below_trans' B0.out hb)
                clear hb
                have HS0 := Lib.hid (FB32.start0 u1)
                go_wp2_with fail
                refine (C.out _).mono ?_
                rintro e w' ⟨rfl, rfl⟩
                go_wp2_with fail
                refine (NX.out _).mono ?_
                rintro e v1 ⟨rfl, hb⟩
                have hs := FB32.step HS0.out hb
                have HS1 := Lib.hid hs
                clear hb
                obtain ⟨c0, c1, c2, c3, c4, c5, c6⟩ := hs
                clear c5 c6
                go_wp2_with fail
                refine (NY.out _).mono ?_
                rintro e v2 ⟨rfl, hb⟩
                have hs := FB32.step HS1.out hb
                have HS2 := Lib.hid hs
                clear hb c0 c1 c2 c3 c4
                obtain ⟨c0, c1, c2, c3, c4, c5, c6⟩ := hs
                clear c5 c6
                go_wp2_with fail
                refine (CM.out _).mono ?_
                rintro e v3 ⟨rfl, hb⟩
                have hs := FB32.step HS2.out hb
                have HS3 := Lib.hid hs
                clear hb c0 c1 c2 c3 c4
                obtain ⟨c0, c1, c2, c3, c4, c5, c6⟩ := hs
                clear c5 c6
                go_wp2_with fail
                refine (AP.out _).mono ?_
                rintro e w' ⟨rfl, rfl⟩
                go_wp2_with fail
                refine (AQ.out _).mono ?_
                rintro e w' ⟨rfl, rfl⟩
                go_wp2_with fail
                refine (NA.out _).mono ?_
                rintro e v4 ⟨rfl, hb⟩
                have hs := FB32.step HS3.out hb
                have HS4 := Lib.hid hs
                clear hb c0 c1 c2 c3 c4
                obtain ⟨c0, c1, c2, c3, c4, c5, c6⟩ := hs
                clear c5 c6
                go_wp2_with fail
                refine (NB.out _).mono ?_
                rintro e v5 ⟨rfl, hb⟩
                have hs := FB32.step HS4.out hb
                have HS5 := Lib.hid hs
                clear hb c0 c1 c2 c3 c4
                obtain ⟨c0, c1, c2, c3, c4, c5, c6⟩ := hs
                clear c5 c6
                go_wp2_with fail
                refine (CA.out _).mono ?_
                rintro e v6 ⟨rfl, hb⟩
                have hs := FB32.step HS5.out hb
                have HS6 := Lib.hid hs
                clear hb c0 c1 c2 c3 c4
                obtain ⟨c0, c1, c2, c3, c4, c5, c6⟩ := hs
                clear c5 c6
                go_wp2_with fail
                refine (MP.out _).mono ?_
                rintro e w' ⟨rfl, rfl⟩
                go_wp2_with fail
                refine (MQ.out _).mono ?_
                rintro e w' ⟨rfl, rfl⟩
                go_wp2_with fail
                refine (NC.out _).mono ?_
                rintro e v7 ⟨rfl, hb⟩
                have hs := FB32.step HS6.out hb
                have HS7 := Lib.hid hs
                clear hb c0 c1 c2 c3 c4
                obtain ⟨c0, c1, c2, c3, c4, c5, c6⟩ := hs
                clear c5 c6
                go_wp2_with fail
                refine (ND.out _).mono ?_
                rintro e v8 ⟨rfl, hb⟩
                have hs := FB32.step HS7.out hb
                have HS8 := Lib.hid hs
                clear hb c0 c1 c2 c3 c4
                obtain ⟨c0, c1, c2, c3, c4, c5, c6⟩ := hs
                clear c5 c6
                go_wp2_with fail
                go_ret
                exact ⟨rfl, below_trans' B1.out (FB32.below HS8.out)⟩
            · skip
              rw [nc] at NC
              clear d1 d2
              have NX := Lib.hid NX
              have NY := Lib.hid NY
              have CM := Lib.hid CM
              have AP := Lib.hid AP
              have AQ := Lib.hid AQ
              have MP := Lib.hid MP
              have MQ := Lib.hid MQ
              have NA := Lib.hid NA
              have NC := Lib.hid NC
              have NB := Lib.hid NB
              have CA := Lib.hid CA
              clear ND CC
              have B0 := Lib.hid (Below.refl w.heap.size w)
              go_enter Try.func7, Try.ntmps7
              go_wp2_with fail
              refine (fmt32_any _).mono ?_
              rintro e u1 ⟨rfl, hb⟩
              have B1 := Lib.hid (below_trans' B0.out hb)
              clear hb
              have HS0 := Lib.hid (FB32.start0 u1)
              go_wp2_with fail
              refine (C.out _).mono ?_
              rintro e w' ⟨rfl, rfl⟩
              go_wp2_with fail
              refine (NX.out _).mono ?_
              rintro e v1 ⟨rfl, hb⟩
              have hs := FB32.step HS0.out hb
              have HS1 := Lib.hid hs
              clear hb
              obtain ⟨c0, c1, c2, c3, c4, c5, c6⟩ := hs
              clear c5 c6
              go_wp2_with fail
              refine (NY.out _).mono ?_
              rintro e v2 ⟨rfl, hb⟩
              have hs := FB32.step HS1.out hb
              have HS2 := Lib.hid hs
              clear hb c0 c1 c2 c3 c4
              obtain ⟨c0, c1, c2, c3, c4, c5, c6⟩ := hs
              clear c5 c6
              go_wp2_with fail
              refine (CM.out _).mono ?_
              rintro e v3 ⟨rfl, hb⟩
              have hs := FB32.step HS2.out hb
              have HS3 := Lib.hid hs
              clear hb c0 c1 c2 c3 c4
              obtain ⟨c0, c1, c2, c3, c4, c5, c6⟩ := hs
              clear c5 c6
              go_wp2_with fail
              refine (AP.out _).mono ?_
              rintro e w' ⟨rfl, rfl⟩
              go_wp2_with fail
              refine (AQ.out _).mono ?_
              rintro e w' ⟨rfl, rfl⟩
              go_wp2_with fail
              refine (NA.out _).mono ?_
              rintro e v4 ⟨rfl, hb⟩
              have hs := FB32.step HS3.out hb
              have HS4 := Lib.hid hs
              clear hb c0 c1 c2 c3 c4
              obtain ⟨c0, c1, c2, c3, c4, c5, c6⟩ := hs
              clear c5 c6
              go_wp2_with fail
              refine (NB.out _).mono ?_
              rintro e v5 ⟨rfl, hb⟩
              have hs := FB32.step HS4.out hb
              have HS5 := Lib.hid hs
              clear hb c0 c1 c2 c3 c4
              obtain ⟨c0, c1, c2, c3, c4, c5, c6⟩ := hs
              clear c5 c6
              go_wp2_with fail
              refine (CA.out _).mono ?_
              rintro e v6 ⟨rfl, hb⟩
              have hs := FB32.step HS5.out hb
              have HS6 := Lib.hid hs
              clear hb c0 c1 c2 c3 c4
              obtain ⟨c0, c1, c2, c3, c4, c5, c6⟩ := hs
              clear c5 c6
              go_wp2_with fail
              refine (MP.out _).mono ?_
              rintro e w' ⟨rfl, rfl⟩
              go_wp2_with fail
              refine (MQ.out _).mono ?_
              rintro e w' ⟨rfl, rfl⟩
              go_wp2_with fail
              refine (NC.out _).mono ?_
              rintro e v7 ⟨rfl, hb⟩
              have hs := FB32.step HS6.out hb
              have HS7 := Lib.hid hs
              clear hb c0 c1 c2 c3 c4
              obtain ⟨c0, c1, c2, c3, c4, c5, c6⟩ := hs
              clear c5 c6
              go_wp2_with fail
              go_ret
              exact ⟨rfl, below_trans' B1.out (FB32.below HS7.out)⟩
          · rw [na] at NA
            rw [nb] at NB
            cases nc : isNaN32 c
            · cases nd : isNaN32 d
              · skip
                rw [nd] at ND
                rw [nc] at NC
                have d2' := d2 nc nd
                clear d1 d2
                have NX := Lib.hid NX
                have NY := Lib.hid NY
                have CM := Lib.hid CM
                have AP := Lib.hid AP
                have AQ := Lib.hid AQ
                have MP := Lib.hid MP
                have MQ := Lib.hid MQ
                have NA := Lib.hid NA
                have NC := Lib.hid NC
                have NB := Lib.hid NB
                have ND := Lib.hid ND
                have CC := Lib.hid CC
                clear CA
                have B0 := Lib.hid (Below.refl w.heap.size w)
                go_enter Try.func7, Try.ntmps7
                go_wp2_with fail
                refine (fmt32_any _).mono ?_
                rintro e u1 ⟨rfl, hb⟩
                have B1 := Lib.hid (below_trans' B0.out hb)
                clear hb
                have HS0 := Lib.hid (FB32.start0 u1)
                go_wp2_with fail
                refine (C.out _).mono ?_
                rintro e w' ⟨rfl, rfl⟩
                go_wp2_with fail
                refine (NX.out _).mono ?_
                rintro e v1 ⟨rfl, hb⟩
                have hs := FB32.step HS0.out hb
                have HS1 := Lib.hid hs
                clear hb
                obtain ⟨c0, c1, c2, c3, c4, c5, c6⟩ := hs
                clear c5 c6
                go_wp2_with fail
                refine (NY.out _).mono ?_
                rintro e v2 ⟨rfl, hb⟩
                have hs := FB32.step HS1.out hb
                have HS2 := Lib.hid hs
                clear hb c0 c1 c2 c3 c4
                obtain ⟨c0, c1, c2, c3, c4, c5, c6⟩ := hs
                clear c5 c6
                go_wp2_with fail
                refine (CM.out _).mono ?_
                rintro e v3 ⟨rfl, hb⟩
                have hs := FB32.step HS2.out hb
                have HS3 := Lib.hid hs
                clear hb c0 c1 c2 c3 c4
                obtain ⟨c0, c1, c2, c3, c4, c5, c6⟩ := hs
                clear c5 c6
                go_wp2_with fail
                refine (AP.out _).mono ?_
                rintro e w' ⟨rfl, rfl⟩
                go_wp2_with fail
                refine (AQ.out _).mono ?_
                rintro e w' ⟨rfl, rfl⟩
                go_wp2_with fail
                refine (NA.out _).mono ?_
                rintro e v4 ⟨rfl, hb⟩
                have hs := FB32.step HS3.out hb
                have HS4 := Lib.hid hs
                clear hb c0 c1 c2 c3 c4
                obtain ⟨c0, c1, c2, c3, c4, c5, c6⟩ := hs
                clear c5 c6
                go_wp2_with fail
                refine (NB.out _).mono ?_
                rintro e v5 ⟨rfl, hb⟩
                have hs := FB32.step HS4.out hb
                have HS5 := Lib.hid hs
                clear hb c0 c1 c2 c3 c4
                obtain ⟨c0, c1, c2, c3, c4, c5, c6⟩ := hs
                clear c5 c6
                go_wp2_with fail
                refine (MP.out _).mono ?_
                rintro e w' ⟨rfl, rfl⟩
                go_wp2_with fail
                refine (MQ.out _).mono ?_
                rintro e w' ⟨rfl, rfl⟩
                go_wp2_with fail
                refine (NC.out _).mono ?_
                rintro e v6 ⟨rfl, hb⟩
                have hs := FB32.step HS5.out hb
                have HS6 := Lib.hid hs
                clear hb c0 c1 c2 c3 c4
                obtain ⟨c0, c1, c2, c3, c4, c5, c6⟩ := hs
                clear c5 c6
                go_wp2_with fail
                refine (ND.out _).mono ?_
                rintro e v7 ⟨rfl, hb⟩
                have hs := FB32.step HS6.out hb
                have HS7 := Lib.hid hs
                clear hb c0 c1 c2 c3 c4
                obtain ⟨c0, c1, c2, c3, c4, c5, c6⟩ := hs
                clear c5 c6
                go_wp2_with fail
                refine (CC.out _).mono ?_
                rintro e v8 ⟨rfl, hb⟩
                have hs := FB32.step HS7.out hb
                have HS8 := Lib.hid hs
                clear hb c0 c1 c2 c3 c4
                obtain ⟨c0, c1, c2, c3, c4, c5, c6⟩ := hs
                clear c5 c6
                go_wp2_with fail
                go_ret
                exact ⟨rfl, below_trans' B1.out (FB32.below HS8.out)⟩
              · skip
                rw [nd] at ND
                rw [nc] at NC
                clear d1 d2
                have NX := Lib.hid NX
                have NY := Lib.hid NY
                have CM := Lib.hid CM
                have AP := Lib.hid AP
                have AQ := Lib.hid AQ
                have MP := Lib.hid MP
                have MQ := Lib.hid MQ
                have NA := Lib.hid NA
                have NC := Lib.hid NC
                have NB := Lib.hid NB
                have ND := Lib.hid ND
                clear CA CC
                have B0 := Lib.hid (Below.refl w.heap.size w)
                go_enter Try.func7, Try.ntmps7
                go_wp2_with fail
                refine (fmt32_any _).mono ?_
                rintro e u1 ⟨rfl, hb⟩
                have B1 := Lib.hid (below_trans' B0.out hb)
                clear hb
                have HS0 := Lib.hid (FB32.start0 u1)
                go_wp2_with fail
                refine (C.out _).mono ?_
                rintro e w' ⟨rfl, rfl⟩
                go_wp2_with fail
                refine (NX.out _).mono ?_
                rintro e v1 ⟨rfl, hb⟩
                have hs := FB32.step HS0.out hb
                have HS1 := Lib.hid hs
                clear hb
                obtain ⟨c0, c1, c2, c3, c4, c5, c6⟩ := hs
                clear c5 c6
                go_wp2_with fail
                refine (NY.out _).mono ?_
                rintro e v2 ⟨rfl, hb⟩
                have hs := FB32.step HS1.out hb
                have HS2 := Lib.hid hs
                clear hb c0 c1 c2 c3 c4
                obtain ⟨c0, c1, c2, c3, c4, c5, c6⟩ := hs
                clear c5 c6
                go_wp2_with fail
                refine (CM.out _).mono ?_
                rintro e v3 ⟨rfl, hb⟩
                have hs := FB32.step HS2.out hb
                have HS3 := Lib.hid hs
                clear hb c0 c1 c2 c3 c4
                obtain ⟨c0, c1, c2, c3, c4, c5, c6⟩ := hs
                clear c5 c6
                go_wp2_with fail
                refine (AP.out _).mono ?_
                rintro e w' ⟨rfl, rfl⟩
                go_wp2_with fail
                refine (AQ.out _).mono ?_
                rintro e w' ⟨rfl, rfl⟩
                go_wp2_with fail
                refine (NA.out _).mono ?_
                rintro e v4 ⟨rfl, hb⟩
                have hs := FB32.step HS3.out hb
                have HS4 := Lib.hid hs
                clear hb c0 c1 c2 c3 c4
                obtain ⟨c0, c1, c2, c3, c4, c5, c6⟩ := hs
                clear c5 c6
                go_wp2_with fail
                refine (NB.out _).mono ?_
                rintro e v5 ⟨rfl, hb⟩
                have hs := FB32.step HS4.out hb
                have HS5 := Lib.hid hs
                clear hb c0 c1 c2 c3 c4
                obtain ⟨c0, c1, c2, c3, c4, c5, c6⟩ := hs
                clear c5 c6
                go_wp2_with fail
                refine (MP.out _).mono ?_
                rintro e w' ⟨rfl, rfl⟩
                go_wp2_with fail
                refine (MQ.out _).mono ?_
                rintro e w' ⟨rfl, rfl⟩
                go_wp2_with fail
                refine (NC.out _).mono ?_
                rintro e v6 ⟨rfl, hb⟩
                have hs := FB32.step HS5.out hb
                have HS6 := Lib.hid hs
                clear hb c0 c1 c2 c3 c4
                obtain ⟨c0, c1, c2, c3, c4, c5, c6⟩ := hs
                clear c5 c6
                go_wp2_with fail
                refine (ND.out _).mono ?_
                rintro e v7 ⟨rfl, hb⟩
                have hs := FB32.step HS6.out hb
                have HS7 := Lib.hid hs
                clear hb c0 c1 c2 c3 c4
                obtain ⟨c0, c1, c2, c3, c4, c5, c6⟩ := hs
                clear c5 c6
                go_wp2_with fail
                go_ret
                exact ⟨rfl, below_trans' B1.out (FB32.below HS7.out)⟩
            · skip
              rw [nc] at NC
              clear d1 d2
              have NX := Lib.hid NX
              have NY := Lib.hid NY
              have CM := Lib.hid CM
              have AP := Lib.hid AP
              have AQ := Lib.hid AQ
              have MP := Lib.hid MP
              have MQ := Lib.hid MQ
              have NA := Lib.hid NA
              have NC := Lib.hid NC
              have NB := Lib.hid NB
              clear CA ND CC
              have B0 := Lib.hid (Below.refl w.heap.size w)
              go_enter Try.func7, Try.ntmps7
              go_wp2_with fail
              refine (fmt32_any _).mono ?_
              rintro e u1 ⟨rfl, hb⟩
              have B1 := Lib.hid (below_trans' B0.out hb)
              clear hb
              have HS0 := Lib.hid (FB32.start0 u1)
              go_wp2_with fail
              refine (C.out _).mono ?_
              rintro e w' ⟨rfl, rfl⟩
              go_wp2_with fail
              refine (NX.out _).mono ?_
              rintro e v1 ⟨rfl, hb⟩
              have hs := FB32.step HS0.out hb
              have HS1 := Lib.hid hs
              clear hb
              obtain ⟨c0, c1, c2, c3, c4, c5, c6⟩ := hs
              clear c5 c6
              go_wp2_with fail
              refine (NY.out _).mono ?_
              rintro e v2 ⟨rfl, hb⟩
              have hs := FB32.step HS1.out hb
              have HS2 := Lib.hid hs
              clear hb c0 c1 c2 c3 c4
              obtain ⟨c0, c1, c2, c3, c4, c5, c6⟩ := hs
              clear c5 c6
              go_wp2_with fail
              refine (CM.out _).mono ?_
              rintro e v3 ⟨rfl, hb⟩
              have hs := FB32.step HS2.out hb
              have HS3 := Lib.hid hs
              clear hb c0 c1 c2 c3 c4
              obtain ⟨c0, c1, c2, c3, c4, c5, c6⟩ := hs
              clear c5 c6
              go_wp2_with fail
              refine (AP.out _).mono ?_
              rintro e w' ⟨rfl, rfl⟩
              go_wp2_with fail
              refine (AQ.out _).mono ?_
              rintro e w' ⟨rfl, rfl⟩
              go_wp2_with fail
              refine (NA.out _).mono ?_
              rintro e v4 ⟨rfl, hb⟩
              have hs := FB32.step HS3.out hb
              have HS4 := Lib.hid hs
              clear hb c0 c1 c2 c3 c4
              obtain ⟨c0, c1, c2, c3, c4, c5, c6⟩ := hs
              clear c5 c6
              go_wp2_with fail
              refine (NB.out _).mono ?_
              rintro e v5 ⟨rfl, hb⟩
              have hs := FB32.step HS4.out hb
              have HS5 := Lib.hid hs
              clear hb c0 c1 c2 c3 c4
              obtain ⟨c0, c1, c2, c3, c4, c5, c6⟩ := hs
              clear c5 c6
              go_wp2_with fail
              refine (MP.out _).mono ?_
              rintro e w' ⟨rfl, rfl⟩
              go_wp2_with fail
              refine (MQ.out _).mono ?_
              rintro e w' ⟨rfl, rfl⟩
              go_wp2_with fail
              refine (NC.out _).mono ?_
              rintro e v6 ⟨rfl, hb⟩
              have hs := FB32.step HS5.out hb
              have HS6 := Lib.hid hs
              clear hb c0 c1 c2 c3 c4
              obtain ⟨c0, c1, c2, c3, c4, c5, c6⟩ := hs
              clear c5 c6
              go_wp2_with fail
              go_ret
              exact ⟨rfl, below_trans' B1.out (FB32.below HS6.out)⟩
        · rw [na] at NA
          cases nc : isNaN32 c
          · cases nd : isNaN32 d
            · skip
              rw [nd] at ND
              rw [nc] at NC
              have d2' := d2 nc nd
              clear d1 d2
              have NX := Lib.hid NX
              have NY := Lib.hid NY
              have CM := Lib.hid CM
              have AP := Lib.hid AP
              have AQ := Lib.hid AQ
              have MP := Lib.hid MP
              have MQ := Lib.hid MQ
              have NA := Lib.hid NA
              have NC := Lib.hid NC
              have ND := Lib.hid ND
              have CC := Lib.hid CC
              clear NB CA
              have B0 := Lib.hid (Below.refl w.heap.size w)
              go_enter Try.func7, Try.ntmps7
              go_wp2_with fail
              refine (fmt32_any _).mono ?_
              rintro e u1 ⟨rfl, hb⟩
              have B1 := Lib.hid (below_trans' B0.out hb)
              clear hb
              have HS0 := Lib.hid (FB32.start0 u1)
              go_wp2_with fail
              refine (C.out _).mono ?_
              rintro e w' ⟨rfl, rfl⟩
              go_wp2_with fail
              refine (NX.out _).mono ?_
              rintro e v1 ⟨rfl, hb⟩
              have hs := FB32.step HS0.out hb
              have HS1 := Lib.hid hs
              clear hb
              obtain ⟨c0, c1, c2, c3, c4, c5, c6⟩ := hs
              clear c5 c6
              go_wp2_with fail
              refine (NY.out _).mono ?_
              rintro e v2 ⟨rfl, hb⟩
              have hs := FB32.step HS1.out hb
              have HS2 := Lib.hid hs
              clear hb c0 c1 c2 c3 c4
              obtain ⟨c0, c1, c2, c3, c4, c5, c6⟩ := hs
              clear c5 c6
              go_wp2_with fail
              refine (CM.out _).mono ?_
              rintro e v3 ⟨rfl, hb⟩
              have hs := FB32.step HS2.out hb
              have HS3 := Lib.hid hs
              clear hb c0 c1 c2 c3 c4
              obtain ⟨c0, c1, c2, c3, c4, c5, c6⟩ := hs
              clear c5 c6
              go_wp2_with fail
              refine (AP.out _).mono ?_
              rintro e w' ⟨rfl, rfl⟩
              go_wp2_with fail
              refine (AQ.out _).mono ?_
              rintro e w' ⟨rfl, rfl⟩
              go_wp2_with fail
              refine (NA.out _).mono ?_
              rintro e v4 ⟨rfl, hb⟩
              have hs := FB32.step HS3.out hb
              have HS4 := Lib.hid hs
              clear hb c0 c1 c2 c3 c4
              obtain ⟨c0, c1, c2, c3, c4, c5, c6⟩ := hs
              clear c5 c6
              go_wp2_with fail
              refine (MP.out _).mono ?_
              rintro e w' ⟨rfl, rfl⟩
              go_wp2_with fail
              refine (MQ.out _).mono ?_
              rintro e w' ⟨rfl, rfl⟩
              go_wp2_with fail
              refine (NC.out _).mono ?_
              rintro e v5 ⟨rfl, hb⟩
              have hs := FB32.step HS4.out hb
              have HS5 := Lib.hid hs
              clear hb c0 c1 c2 c3 c4
              obtain ⟨c0, c1, c2, c3, c4, c5, c6⟩ := hs
              clear c5 c6
              go_wp2_with fail
              refine (ND.out _).mono ?_
              rintro e v6 ⟨rfl, hb⟩
              have hs := FB32.step HS5.out hb
              have HS6 := Lib.hid hs
              clear hb c0 c1 c2 c3 c4
              obtain ⟨c0, c1, c2, c3, c4, c5, c6⟩ := hs
              clear c5 c6
              go_wp2_with fail
              refine (CC.out _).mono ?_
              rintro e v7 ⟨rfl, hb⟩
              have hs := FB32.step HS6.out hb
              have HS7 := Lib.hid hs
              clear hb c0 c1 c2 c3 c4
              obtain ⟨c0, c1, c2, c3, c4, c5, c6⟩ := hs
              clear c5 c6
              go_wp2_with fail
              go_ret
              exact ⟨rfl, below_trans' B1.out (FB32.below HS7.out)⟩
            · skip
              rw [nd] at ND
              rw [nc] at NC
              clear d1 d2
              have NX := Lib.hid NX
              have NY := Lib.hid NY
              have CM := Lib.hid CM
              have AP := Lib.hid AP
              have AQ := Lib.hid AQ
              have MP := Lib.hid MP
              have MQ := Lib.hid MQ
              have NA := Lib.hid NA
              have NC := Lib.hid NC
              have ND := Lib.hid ND
              clear NB CA CC
              have B0 := Lib.hid (Below.refl w.heap.size w)
              go_enter Try.func7, Try.ntmps7
              go_wp2_with fail
              refine (fmt32_any _).mono ?_
              rintro e u1 ⟨rfl, hb⟩
              have B1 := Lib.hid (below_trans' B0.out hb)
              clear hb
              have HS0 := Lib.hid (FB32.start0 u1)
              go_wp2_with fail
              refine (C.out _).mono ?_
              rintro e w' ⟨rfl, rfl⟩
              go_wp2_with fail
              refine (NX.out _).mono ?_
              rintro e v1 ⟨rfl, hb⟩
              have hs := FB32.step HS0.out hb
              have HS1 := Lib.hid hs
              clear hb
              obtain ⟨c0, c1, c2, c3, c4, c5, c6⟩ := hs
              clear c5 c6
              go_wp2_with fail
              refine (NY.out _).mono ?_
              rintro e v2 ⟨rfl, hb⟩
              have hs := FB32.step HS1.out hb
              have HS2 := Lib.hid hs
              clear hb c0 c1 c2 c3 c4
              obtain ⟨c0, c1, c2, c3, c4, c5, c6⟩ := hs
              clear c5 c6
              go_wp2_with fail
              refine (CM.out _).mono ?_
              rintro e v3 ⟨rfl, hb⟩
              have hs := FB32.step HS2.out hb
              have HS3 := Lib.hid hs
              clear hb c0 c1 c2 c3 c4
              obtain ⟨c0, c1, c2, c3, c4, c5, c6⟩ := hs
              clear c5 c6
              go_wp2_with fail
              refine (AP.out _).mono ?_
              rintro e w' ⟨rfl, rfl⟩
              go_wp2_with fail
              refine (AQ.out _).mono ?_
              rintro e w' ⟨rfl, rfl⟩
              go_wp2_with fail
              refine (NA.out _).mono ?_
              rintro e v4 ⟨rfl, hb⟩
              have hs := FB32.step HS3.out hb
              have HS4 := Lib.hid hs
              clear hb c0 c1 c2 c3 c4
              obtain ⟨c0, c1, c2, c3, c4, c5, c6⟩ := hs
              clear c5 c6
              go_wp2_with fail
              refine (MP.out _).mono ?_
              rintro e w' ⟨rfl, rfl⟩
              go_wp2_with fail
              refine (MQ.out _).mono ?_
              rintro e w' ⟨rfl, rfl⟩
              go_wp2_with fail
              refine (NC.out _).mono ?_
              rintro e v5 ⟨rfl, hb⟩
              have hs := FB32.step HS4.out hb
              have HS5 := Lib.hid hs
              clear hb c0 c1 c2 c3 c4
              obtain ⟨c0, c1, c2, c3, c4, c5, c6⟩ := hs
              clear c5 c6
              go_wp2_with fail
              refine (ND.out _).mono ?_
              rintro e v6 ⟨rfl, hb⟩
              have hs := FB32.step HS5.out hb
              have HS6 := Lib.hid hs
              clear hb c0 c1 c2 c3 c4
              obtain ⟨c0, c1, c2, c3, c4, c5, c6⟩ := hs
              clear c5 c6
              go_wp2_with fail
              go_ret
              exact ⟨rfl, below_trans' B1.out (FB32.below HS6.out)⟩
          · skip
            rw [nc] at NC
            clear d1 d2
            have NX := Lib.hid NX
            have NY := Lib.hid NY
            have CM := Lib.hid CM
            have AP := Lib.hid AP
            have AQ := Lib.hid AQ
            have MP := Lib.hid MP
            have MQ := Lib.hid MQ
            have NA := Lib.hid NA
            have NC := Lib.hid NC
            clear NB CA ND CC
            have B0 := Lib.hid (Below.refl w.heap.size w)
            go_enter Try.func7, Try.ntmps7
            go_wp2_with fail
            refine (fmt32_any _).mono ?_
            rintro e u1 ⟨rfl, hb⟩
            have B1 := Lib.hid (below_trans' B0.out hb)
            clear hb
            have HS0 := Lib.hid (FB32.start0 u1)
            go_wp2_with fail
            refine (C.out _).mono ?_
            rintro e w' ⟨rfl, rfl⟩
            go_wp2_with fail
            refine (NX.out _).mono ?_
            rintro e v1 ⟨rfl, hb⟩
            have hs := FB32.step HS0.out hb
            have HS1 := Lib.hid hs
            clear hb
            obtain ⟨c0, c1, c2, c3, c4, c5, c6⟩ := hs
            clear c5 c6
            go_wp2_with fail
            refine (NY.out _).mono ?_
            rintro e v2 ⟨rfl, hb⟩
            have hs := FB32.step HS1.out hb
            have HS2 := Lib.hid hs
            clear hb c0 c1 c2 c3 c4
            obtain ⟨c0, c1, c2, c3, c4, c5, c6⟩ := hs
            clear c5 c6
            go_wp2_with fail
            refine (CM.out _).mono ?_
            rintro e v3 ⟨rfl, hb⟩
            have hs := FB32.step HS2.out hb
            have HS3 := Lib.hid hs
            clear hb c0 c1 c2 c3 c4
            obtain ⟨c0, c1, c2, c3, c4, c5, c6⟩ := hs
            clear c5 c6
            go_wp2_with fail
            refine (AP.out _).mono ?_
            rintro e w' ⟨rfl, rfl⟩
            go_wp2_with fail
            refine (AQ.out _).mono ?_
            rintro e w' ⟨rfl, rfl⟩
            go_wp2_with fail
            refine (NA.out _).mono ?_
            rintro e v4 ⟨rfl, hb⟩
            have hs := FB32.step HS3.out hb
            have HS4 := Lib.hid hs
            clear hb c0 c1 c2 c3 c4
            obtain ⟨c0, c1, c2, c3, c4, c5, c6⟩ := hs
            clear c5 c6
            go_wp2_with fail
            refine (MP.out _).mono ?_
            rintro e w' ⟨rfl, rfl⟩
            go_wp2_with fail
            refine (MQ.out _).mono ?_
            rintro e w' ⟨rfl, rfl⟩
            go_wp2_with fail
            refine (NC.out _).mono ?_
            rintro e v5 ⟨rfl, hb⟩
            have hs := FB32.step HS4.out hb
            have HS5 := Lib.hid hs
            clear hb c0 c1 c2 c3 c4
            obtain ⟨c0, c1, c2, c3, c4, c5, c6⟩ := hs
            clear c5 c6
            go_wp2_with fail
            go_ret
            exact ⟨rfl, below_trans' B1.out (FB32.below HS5.out)⟩
    · rw [nx] at NX
      rw [ny] at NY
      clear hx hy hz lz nz fz nx ny CM
      have NX := Lib.hid NX
      have NY := Lib.hid NY
      have B0 := Lib.hid (Below.refl w.heap.size w)
      go_enter Try.func7, Try.ntmps7
      go_wp2_with fail
      refine (fmt32_any _).mono ?_
      rintro e u1 ⟨rfl, hb⟩
      have B1 := Lib.hid (below_trans' B0.out hb)
      clear hb
      have HS0 := Lib.hid (FB32.start0 u1)
      go_wp2_with fail
      refine (C.out _).mono ?_
      rintro e w' ⟨rfl, rfl⟩
      go_wp2_with fail
      refine (NX.out _).mono ?_
      rintro e v1 ⟨rfl, hb⟩
      have hs := FB32.step HS0.out hb
      have HS1 := Lib.hid hs
      clear hb
      obtain ⟨c0, c1, c2, c3, c4, c5, c6⟩ := hs
      clear c5 c6
      go_wp2_with fail
      refine (NY.out _).mono ?_
      rintro e v2 ⟨rfl, hb⟩
      have hs := FB32.step HS1.out hb
      have HS2 := Lib.hid hs
      clear hb c0 c1 c2 c3 c4
      obtain ⟨c0, c1, c2, c3, c4, c5, c6⟩ := hs
      clear c5 c6
      go_wp2_with fail
      go_ret
      exact ⟨rfl, below_trans' B1.out (FB32.below HS2.out)⟩
  · rw [nx] at NX
    clear hx hy hz lz nz fz nx NY CM
    have NX := Lib.hid NX
    have B0 := Lib.hid (Below.refl w.heap.size w)
    go_enter Try.func7, Try.ntmps7
    go_wp2_with fail
    refine (fmt32_any _).mono ?_
    rintro e u1 ⟨rfl, hb⟩
    have B1 := Lib.hid (below_trans' B0.out hb)
    clear hb
    have HS0 := Lib.hid (FB32.start0 u1)
    go_wp2_with fail
    refine (C.out _).mono ?_
    rintro e w' ⟨rfl, rfl⟩
    go_wp2_with fail
    refine (NX.out _).mono ?_
    rintro e v1 ⟨rfl, hb⟩
    have hs := FB32.step HS0.out hb
    have HS1 := Lib.hid hs
    clear hb
    obtain ⟨c0, c1, c2, c3, c4, c5, c6⟩ := hs
    clear c5 c6
    go_wp2_with fail
    go_ret
    exact ⟨rfl, below_trans' B1.out (FB32.below HS1.out)⟩
end Go.Proofs.Ytdadcbjhjmdheaa.SF
