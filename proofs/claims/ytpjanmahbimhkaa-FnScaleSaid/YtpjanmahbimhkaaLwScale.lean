/-
  The walk of a law.
-/
import Derived.Test.YtpjanmahbimhkaaWrap
import Derived.Test.YtpjanmahbimhkaaAlikeW
import Derived.Test.YtpjanmahbimhkaaFmtB
import Derived.Test.YtpjanmahbimhkaaFrame
import Derived.Test.YtpjanmahbimhkaaScaleP
namespace Go.Proofs.Ytpjanmahbimhkaa.SF
open Go.ChangeShapes Go.WideShapes Go.ChangeAt Go.RowKit
set_option linter.unusedVariables false
set_option maxRecDepth 100000 in
set_option maxHeartbeats 4000000 in
theorem fnScale (x : Nat) (k : Nat) (w : World) (hx : x < 18446744073709551616) (hk : k < 256) : Calls Try.prog 9 #[.int .u64 (x : Int), .int .u8 (k : Int)] w (LawPost w) := by
  obtain ⟨E, hE⟩ : ∃ E, E = 973 + k % 101 := ⟨_, rfl⟩
  obtain ⟨p, hp⟩ : ∃ p, p = E * 4503599627370496 := ⟨_, rfl⟩
  have e1 : IntKind.i64.wrap (k : Int) = (k : Int) := IntWalk.i64_in _ (by omega)
  have e2 : IntKind.i64.wrap (973 + (k : Int) % 101) = (E : Int) := by rw [IntWalk.i64_in _ (by omega)]; omega
  have e3 : IntKind.u64.wrap (E : Int) = (E : Int) := wrap_u64_nat (by omega)
  have e4 : IntKind.u64.wrap ((E : Int) * 4503599627370496) = (p : Int) := by rw [IntKind.wrap_u64]; omega
  have lp : p < 18446744073709551616 := by omega
  have lm := mul_lt64 x p
  have MU := fun w => implMul64 x p w hx lp
  have M1 := fun w => implMul64 4607182418800017408 p w (by omega) lp
  have hpw := pw_one (E := E) (by omega) (by omega)
  rw [← hp] at hpw
  rw [hpw] at M1
  have DV := fun w => implDiv64 (mul64 x p) p w lm lp
  have FX := fun w => ffin64_any x w hx
  have FM := fun w => ffin64_any (mul64 x p) w lm
  have ZX := fun w => fzero64_any x w hx
  have ok := fun fx zx fm hm => scale_ok (x := x) (E := E) hx (by omega) (by omega) fx zx fm hm
  rw [← hp] at ok
  have sm1 := shl1_53 lm
  have sx1 := shl1_53 hx
  have sm2 := shl12 lm
  have sx2 := shl12 hx
  have hmg : mag64 (mul64 x p) = fe64 (mul64 x p) * 4503599627370496 + ff64 (mul64 x p) := mag_fe64 _
  generalize mul64 x p = m at *
  clear hE lp hk hp hpw
  cases fx : fin64 x
  · rw [fx] at FX
    have MU := Lib.hid MU
    have M1 := Lib.hid M1
    have FX := Lib.hid FX
    clear ok sm1 sx1 sm2 sx2 hmg lm hx fx FM ZX DV
    have B0 := Lib.hid (Below.refl w.heap.size w)
    go_enter Try.func9, Try.ntmps9
    go_wp2_with fail
    refine (fmt64_any _).mono ?_
    rintro e u1 ⟨rfl, hb⟩
    have B1 := Lib.hid (below_trans' B0.out hb)
    clear hb
    have HS0 := Lib.hid (FB64.start0 u1)
    go_wp2_with fail
    refine (MU.out _).mono ?_
    rintro e w' ⟨rfl, rfl⟩
    go_wp2_with fail
    refine (M1.out _).mono ?_
    rintro e w' ⟨rfl, rfl⟩
    go_wp2_with fail
    refine (FX.out _).mono ?_
    rintro e v1 ⟨rfl, hb⟩
    have hs := FB64.step HS0.out hb
    have HS1 := Lib.hid hs
    clear hb
    obtain ⟨c0, c1, c2, c3, c4, c5, c6⟩ := hs
    clear c5 c6
    go_wp2_with fail
    go_ret
    exact ⟨rfl, below_trans' B1.out (FB64.below HS1.out)⟩
  · rw [fx] at FX
    cases fm : fin64 m
    · rw [fm] at FM
      have MU := Lib.hid MU
      have M1 := Lib.hid M1
      have FX := Lib.hid FX
      have FM := Lib.hid FM
      clear ok sm1 sx1 sm2 sx2 hmg lm hx fx fm ZX DV
      have B0 := Lib.hid (Below.refl w.heap.size w)
      go_enter Try.func9, Try.ntmps9
      go_wp2_with fail
      refine (fmt64_any _).mono ?_
      rintro e u1 ⟨rfl, hb⟩
      have B1 := Lib.hid (below_trans' B0.out hb)
      clear hb
      have HS0 := Lib.hid (FB64.start0 u1)
      go_wp2_with fail
      refine (MU.out _).mono ?_
      rintro e w' ⟨rfl, rfl⟩
      go_wp2_with fail
      refine (M1.out _).mono ?_
      rintro e w' ⟨rfl, rfl⟩
      go_wp2_with fail
      refine (FX.out _).mono ?_
      rintro e v1 ⟨rfl, hb⟩
      have hs := FB64.step HS0.out hb
      have HS1 := Lib.hid hs
      clear hb
      obtain ⟨c0, c1, c2, c3, c4, c5, c6⟩ := hs
      clear c5 c6
      go_wp2_with fail
      refine (FM.out _).mono ?_
      rintro e v2 ⟨rfl, hb⟩
      have hs := FB64.step HS1.out hb
      have HS2 := Lib.hid hs
      clear hb c0 c1 c2 c3 c4
      obtain ⟨c0, c1, c2, c3, c4, c5, c6⟩ := hs
      clear c5 c6
      go_wp2_with fail
      go_ret
      exact ⟨rfl, below_trans' B1.out (FB64.below HS2.out)⟩
    · rw [fm] at FM
      cases zx : isZero64 x
      · rw [zx] at ZX
        obtain ⟨sa, sb⟩ := sm1
        obtain ⟨sc, sd⟩ := sx1
        have ok := ok fx zx fm
        by_cases h0 : fe64 m = 0
        · rw [h0] at sa
          have MU := Lib.hid MU
          have M1 := Lib.hid M1
          have FX := Lib.hid FX
          have FM := Lib.hid FM
          have ZX := Lib.hid ZX
          clear ok sb sc sd sm2 sx2 hmg lm hx fx fm zx DV h0
          have B0 := Lib.hid (Below.refl w.heap.size w)
          go_enter Try.func9, Try.ntmps9
          go_wp2_with fail
          refine (fmt64_any _).mono ?_
          rintro e u1 ⟨rfl, hb⟩
          have B1 := Lib.hid (below_trans' B0.out hb)
          clear hb
          have HS0 := Lib.hid (FB64.start0 u1)
          go_wp2_with fail
          refine (MU.out _).mono ?_
          rintro e w' ⟨rfl, rfl⟩
          go_wp2_with fail
          refine (M1.out _).mono ?_
          rintro e w' ⟨rfl, rfl⟩
          go_wp2_with fail
          refine (FX.out _).mono ?_
          rintro e v1 ⟨rfl, hb⟩
          have hs := FB64.step HS0.out hb
          have HS1 := Lib.hid hs
          clear hb
          obtain ⟨c0, c1, c2, c3, c4, c5, c6⟩ := hs
          clear c5 c6
          go_wp2_with fail
          refine (FM.out _).mono ?_
          rintro e v2 ⟨rfl, hb⟩
          have hs := FB64.step HS1.out hb
          have HS2 := Lib.hid hs
          clear hb c0 c1 c2 c3 c4
          obtain ⟨c0, c1, c2, c3, c4, c5, c6⟩ := hs
          clear c5 c6
          go_wp2_with fail
          refine (ZX.out _).mono ?_
          rintro e v3 ⟨rfl, hb⟩
          have hs := FB64.step HS2.out hb
          have HS3 := Lib.hid hs
          clear hb c0 c1 c2 c3 c4
          obtain ⟨c0, c1, c2, c3, c4, c5, c6⟩ := hs
          clear c5 c6
          go_wp2_with fail
          go_ret
          exact ⟨rfl, below_trans' B1.out (FB64.below HS3.out)⟩
        · have t0 : ((fe64 m : Int) == 0) = false := beq_eq_false_iff_ne.mpr (by omega)
          by_cases h1 : mag64 m = 4503599627370496
          · rw [h1] at sb
            have MU := Lib.hid MU
            have M1 := Lib.hid M1
            have FX := Lib.hid FX
            have FM := Lib.hid FM
            have ZX := Lib.hid ZX
            generalize fe64 m = fm1 at *
            clear ok sc sd sm2 sx2 hmg lm hx fx fm zx DV h0 h1
            have B0 := Lib.hid (Below.refl w.heap.size w)
            go_enter Try.func9, Try.ntmps9
            go_wp2_with fail
            refine (fmt64_any _).mono ?_
            rintro e u1 ⟨rfl, hb⟩
            have B1 := Lib.hid (below_trans' B0.out hb)
            clear hb
            have HS0 := Lib.hid (FB64.start0 u1)
            go_wp2_with fail
            refine (MU.out _).mono ?_
            rintro e w' ⟨rfl, rfl⟩
            go_wp2_with fail
            refine (M1.out _).mono ?_
            rintro e w' ⟨rfl, rfl⟩
            go_wp2_with fail
            refine (FX.out _).mono ?_
            rintro e v1 ⟨rfl, hb⟩
            have hs := FB64.step HS0.out hb
            have HS1 := Lib.hid hs
            clear hb
            obtain ⟨c0, c1, c2, c3, c4, c5, c6⟩ := hs
            clear c5 c6
            go_wp2_with fail
            refine (FM.out _).mono ?_
            rintro e v2 ⟨rfl, hb⟩
            have hs := FB64.step HS1.out hb
            have HS2 := Lib.hid hs
            clear hb c0 c1 c2 c3 c4
            obtain ⟨c0, c1, c2, c3, c4, c5, c6⟩ := hs
            clear c5 c6
            go_wp2_with fail
            refine (ZX.out _).mono ?_
            rintro e v3 ⟨rfl, hb⟩
            have hs := FB64.step HS2.out hb
            have HS3 := Lib.hid hs
            clear hb c0 c1 c2 c3 c4
            obtain ⟨c0, c1, c2, c3, c4, c5, c6⟩ := hs
            clear c5 c6
            go_wp2_with fail
            go_ret
            exact ⟨rfl, below_trans' B1.out (FB64.below HS3.out)⟩
          · have t1 : (((mag64 m * 2 : Nat) : Int) == 9007199254740992) = false := beq_eq_false_iff_ne.mpr (by omega)
            obtain ⟨o1, o2⟩ := ok (by omega)
            rw [o1] at DV
            rw [sb] at sa
            rw [sd] at sc
            have t3 : ¬ (mag64 m * 2 = 9007199254740992) := by omega
            by_cases h2 : fe64 x = 0
            · rw [h2] at sc
              have MU := Lib.hid MU
              have M1 := Lib.hid M1
              have FX := Lib.hid FX
              have FM := Lib.hid FM
              have ZX := Lib.hid ZX
              have DV := Lib.hid DV
              generalize mag64 m * 2 = mm at *
              generalize fe64 m = fm1 at *
              generalize mag64 x * 2 = mx2 at *
              clear ok sm2 sx2 hmg lm hx fx fm zx h0 h1 h2 o1 o2
              have B0 := Lib.hid (Below.refl w.heap.size w)
              go_enter Try.func9, Try.ntmps9
              go_wp2_with fail
              refine (fmt64_any _).mono ?_
              rintro e u1 ⟨rfl, hb⟩
              have B1 := Lib.hid (below_trans' B0.out hb)
              clear hb
              have HS0 := Lib.hid (FB64.start0 u1)
              go_wp2_with fail
              refine (MU.out _).mono ?_
              rintro e w' ⟨rfl, rfl⟩
              go_wp2_with fail
              refine (M1.out _).mono ?_
              rintro e w' ⟨rfl, rfl⟩
              go_wp2_with fail
              refine (FX.out _).mono ?_
              rintro e v1 ⟨rfl, hb⟩
              have hs := FB64.step HS0.out hb
              have HS1 := Lib.hid hs
              clear hb
              obtain ⟨c0, c1, c2, c3, c4, c5, c6⟩ := hs
              clear c5 c6
              go_wp2_with fail
              refine (FM.out _).mono ?_
              rintro e v2 ⟨rfl, hb⟩
              have hs := FB64.step HS1.out hb
              have HS2 := Lib.hid hs
              clear hb c0 c1 c2 c3 c4
              obtain ⟨c0, c1, c2, c3, c4, c5, c6⟩ := hs
              clear c5 c6
              go_wp2_with fail
              refine (ZX.out _).mono ?_
              rintro e v3 ⟨rfl, hb⟩
              have hs := FB64.step HS2.out hb
              have HS3 := Lib.hid hs
              clear hb c0 c1 c2 c3 c4
              obtain ⟨c0, c1, c2, c3, c4, c5, c6⟩ := hs
              clear c5 c6
              go_wp2_with fail
              refine (DV.out _).mono ?_
              rintro e w' ⟨rfl, rfl⟩
              go_wp2_with fail
              go_ret
              exact ⟨rfl, below_trans' B1.out (FB64.below HS3.out)⟩
            · have t2 : ((fe64 x : Int) == 0) = false := beq_eq_false_iff_ne.mpr (by omega)
              have o3 : ff64 x = ff64 m := by rcases o2 with g | g; exact absurd g h2; exact g
              rw [o3] at sx2
              have MU := Lib.hid MU
              have M1 := Lib.hid M1
              have FX := Lib.hid FX
              have FM := Lib.hid FM
              have ZX := Lib.hid ZX
              have DV := Lib.hid DV
              generalize mag64 m * 2 = mm at *
              generalize fe64 m = fm1 at *
              generalize fe64 x = fx1 at *
              generalize ff64 m * 4096 = fr at *
              generalize mag64 x * 2 = mx2 at *
              clear ok hmg lm hx fx fm zx h0 h1 h2 o1 o2 o3
              have B0 := Lib.hid (Below.refl w.heap.size w)
              go_enter Try.func9, Try.ntmps9
              go_wp2_with fail
              refine (fmt64_any _).mono ?_
              rintro e u1 ⟨rfl, hb⟩
              have B1 := Lib.hid (below_trans' B0.out hb)
              clear hb
              have HS0 := Lib.hid (FB64.start0 u1)
              go_wp2_with fail
              refine (MU.out _).mono ?_
              rintro e w' ⟨rfl, rfl⟩
              go_wp2_with fail
              refine (M1.out _).mono ?_
              rintro e w' ⟨rfl, rfl⟩
              go_wp2_with fail
              refine (FX.out _).mono ?_
              rintro e v1 ⟨rfl, hb⟩
              have hs := FB64.step HS0.out hb
              have HS1 := Lib.hid hs
              clear hb
              obtain ⟨c0, c1, c2, c3, c4, c5, c6⟩ := hs
              clear c5 c6
              go_wp2_with fail
              refine (FM.out _).mono ?_
              rintro e v2 ⟨rfl, hb⟩
              have hs := FB64.step HS1.out hb
              have HS2 := Lib.hid hs
              clear hb c0 c1 c2 c3 c4
              obtain ⟨c0, c1, c2, c3, c4, c5, c6⟩ := hs
              clear c5 c6
              go_wp2_with fail
              refine (ZX.out _).mono ?_
              rintro e v3 ⟨rfl, hb⟩
              have hs := FB64.step HS2.out hb
              have HS3 := Lib.hid hs
              clear hb c0 c1 c2 c3 c4
              obtain ⟨c0, c1, c2, c3, c4, c5, c6⟩ := hs
              clear c5 c6
              go_wp2_with fail
              refine (DV.out _).mono ?_
              rintro e w' ⟨rfl, rfl⟩
              go_wp2_with fail
              go_ret
              exact ⟨rfl, below_trans' B1.out (FB64.below HS3.out)⟩
      · rw [zx] at ZX
        have MU := Lib.hid MU
        have M1 := Lib.hid M1
        have FX := Lib.hid FX
        have FM := Lib.hid FM
        have ZX := Lib.hid ZX
        clear ok sm1 sx1 sm2 sx2 hmg lm hx fx fm zx DV
        have B0 := Lib.hid (Below.refl w.heap.size w)
        go_enter Try.func9, Try.ntmps9
        go_wp2_with fail
        refine (fmt64_any _).mono ?_
        rintro e u1 ⟨rfl, hb⟩
        have B1 := Lib.hid (below_trans' B0.out hb)
        clear hb
        have HS0 := Lib.hid (FB64.start0 u1)
        go_wp2_with fail
        refine (MU.out _).mono ?_
        rintro e w' ⟨rfl, rfl⟩
        go_wp2_with fail
        refine (M1.out _).mono ?_
        rintro e w' ⟨rfl, rfl⟩
        go_wp2_with fail
        refine (FX.out _).mono ?_
        rintro e v1 ⟨rfl, hb⟩
        have hs := FB64.step HS0.out hb
        have HS1 := Lib.hid hs
        clear hb
        obtain ⟨c0, c1, c2, c3, c4, c5, c6⟩ := hs
        clear c5 c6
        go_wp2_with fail
        refine (FM.out _).mono ?_
        rintro e v2 ⟨rfl, hb⟩
        have hs := FB64.step HS1.out hb
        have HS2 := Lib.hid hs
        clear hb c0 c1 c2 c3 c4
        obtain ⟨c0, c1, c2, c3, c4, c5, c6⟩ := hs
        clear c5 c6
        go_wp2_with fail
        refine (ZX.out _).mono ?_
        rintro e v3 ⟨rfl, hb⟩
        have hs := FB64.step HS2.out hb
        have HS3 := Lib.hid hs
        clear hb c0 c1 c2 c3 c4
        obtain ⟨c0, c1, c2, c3, c4, c5, c6⟩ := hs
        clear c5 c6
        go_wp2_with fail
        go_ret
        exact ⟨rfl, below_trans' B1.out (FB64.below HS3.out)⟩
end Go.Proofs.Ytpjanmahbimhkaa.SF
