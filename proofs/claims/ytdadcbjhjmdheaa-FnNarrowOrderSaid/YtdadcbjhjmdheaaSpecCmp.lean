/-
  The walk through the reference's Cmp.
-/
import Derived.Test.YtdadcbjhjmdheaaFmtB
import Derived.Deep.DeepCutAuto
namespace Go.Proofs.Ytdadcbjhjmdheaa.SF
open Go.ChangeShapes Go.WideShapes Go.ChangeAt Go.RowKit
set_option linter.unusedVariables false

def cmpS64 (x y : Nat) : Int :=
  if mag64 x = 0 ∧ mag64 y = 0 then 0 else if neg64 x ≠ neg64 y then (if neg64 x then -1 else 1) else if mag64 x = mag64 y then 0 else if decide (mag64 x < mag64 y) ≠ neg64 x then -1 else 1

theorem mag_bits64 {x : Nat} (hx : x < 18446744073709551616) : bits .andNot .u64 (x : Int) 9223372036854775808 = ((mag64 x : Nat) : Int) := by
  rw [show (9223372036854775808 : Int) = ((9223372036854775808 : Nat) : Int) from rfl, u64_andNot_nat _ _ (by omega) (by omega)]
  congr 1
  have e : x = sb64 x + mag64 x := (sb_add_mag64 x).symm
  have hm := mag_lt64 x
  apply Nat.eq_of_testBit_eq
  intro i
  rw [Nat.testBit_and]
  unfold mag64
  rw [show (9223372036854775808 : Nat) = 2 ^ 63 from rfl, Nat.testBit_mod_two_pow]
  by_cases hi : i < 63
  · have : (18446744073709551615 - 2 ^ 63 : Nat).testBit i = true := by
      have h := (by decide : ∀ i : Fin 63, (18446744073709551615 - 2 ^ 63 : Nat).testBit i.val = true)
      exact h ⟨i, hi⟩
    rw [this]; simp [hi]
  · have hx2 : x.testBit i = true → i = 63 := by
      intro h
      have := Nat.ge_two_pow_of_testBit h
      have h2 : 2 ^ i < 2 ^ (63 + 1) := by
        refine Nat.lt_of_le_of_lt this ?_
        exact hx
      have := (Nat.pow_lt_pow_iff_right (a := 2) (by omega)).mp h2
      omega
    by_cases hb : x.testBit i = true
    · rw [hx2 hb]
      have : (18446744073709551615 - 2 ^ 63 : Nat).testBit 63 = false := by decide
      rw [this]; simp
    · simp [hb]

set_option maxRecDepth 100000 in
set_option maxHeartbeats 2000000 in
theorem fcmpS64_any (x y : Nat) (w : World) (hx : x < 18446744073709551616) (hy : y < 18446744073709551616) : Calls Try.prog 24 #[.agg #[.int .i64 53, .int .i64 52, .int .i64 (-1074), .int .u64 2047, .int .u64 9223372036854775808], .int .u64 (x : Int), .int .u64 (y : Int)] w (RetB (.int .i64 (cmpS64 x y)) w) := by
  have a1 := mag_bits64 hx
  have a2 := mag_bits64 hy
  have HF0 := Lib.hid (FB64.start0 w)
  have Z1 := Lib.hid fun w => fzero64_any x w hx
  have Z2 := Lib.hid fun w => fzero64_any y w hy
  have N1 := Lib.hid fun w => fneg64_any x w hx
  have N2 := Lib.hid fun w => fneg64_any y w hy
  clear hx hy
  unfold isZero64 at *
  obtain ⟨R, hR⟩ : ∃ R, R = cmpS64 x y := ⟨_, rfl⟩
  rw [← hR]
  unfold cmpS64 at hR
  generalize mag64 x = mx at *
  generalize mag64 y = my at *
  generalize neg64 x = nx at *
  generalize neg64 y = ny at *
  obtain ⟨Z, hZ⟩ : ∃ Z : Bool, Z = decide (mx = 0 ∧ my = 0) := ⟨_, rfl⟩
  have HZ := Lib.hid hZ
  have HR := Lib.hid hR
  clear hZ hR
  go_enter Try.func24, Try.ntmps24
  go_wp2_with fail
  go_quiet (fail)
  have HF1 := Lib.hid (FB64.drewN HF0.out nq)
  go_upto_region 2 with (fail)
  go_cut [17] (fun b wx => b = .bool Z ∧ FB64 w wx)
  case first =>
    by_cases hzx : mx = 0
    · have d1 : decide (mx = 0) = true := decide_eq_true hzx
      rw [d1] at Z1
      by_cases hzy : my = 0
      · have d2 : decide (my = 0) = true := decide_eq_true hzy
        rw [d2] at Z2
        have eZ : Z = true := by rw [HZ.out]; exact decide_eq_true ⟨hzx, hzy⟩
        subst eZ
        clear hzx hzy d1 d2
        go_wp2_with fail
        refine (Z1.out _).mono ?_
        rintro e w1 ⟨rfl, hb⟩
        have hs := FB64.step HF1.out hb
        have HS := Lib.hid hs
        obtain ⟨c0, c1, c2, c3, c4, c5, c6⟩ := hs
        clear hb c5 c6
        go_wp2_with fail
        refine (Z2.out _).mono ?_
        rintro e w2 ⟨rfl, hb⟩
        have HS2 := Lib.hid (FB64.step HS.out hb)
        clear hb
        go_wp2_with fail
        go_meet
        exact ⟨rfl, HS2.out⟩
      · have d2 : decide (my = 0) = false := decide_eq_false hzy
        rw [d2] at Z2
        have eZ : Z = false := by rw [HZ.out]; exact decide_eq_false fun h => hzy h.2
        subst eZ
        clear hzx hzy d1 d2
        go_wp2_with fail
        refine (Z1.out _).mono ?_
        rintro e w1 ⟨rfl, hb⟩
        have hs := FB64.step HF1.out hb
        have HS := Lib.hid hs
        obtain ⟨c0, c1, c2, c3, c4, c5, c6⟩ := hs
        clear hb c5 c6
        go_wp2_with fail
        refine (Z2.out _).mono ?_
        rintro e w2 ⟨rfl, hb⟩
        have HS2 := Lib.hid (FB64.step HS.out hb)
        clear hb
        go_wp2_with fail
        go_meet
        exact ⟨rfl, HS2.out⟩
    · have d1 : decide (mx = 0) = false := decide_eq_false hzx
      rw [d1] at Z1
      have eZ : Z = false := by rw [HZ.out]; exact decide_eq_false fun h => hzx h.1
      subst eZ
      clear hzx d1
      go_wp2_with fail
      refine (Z1.out _).mono ?_
      rintro e w1 ⟨rfl, hb⟩
      have HS := Lib.hid (FB64.step HF1.out hb)
      clear hb
      go_wp2_with fail
      go_meet
      exact ⟨rfl, HS.out⟩
  case rest =>
    obtain ⟨rfl, hF⟩ := hcut
    have HF := Lib.hid hF
    have HFd := Lib.hid (FB64.drew hF)
    cases Z
    · have hz : ¬ (mx = 0 ∧ my = 0) := of_decide_eq_false HZ.out.symm
      have hR := HR.out
      rw [if_neg hz] at hR
      clear hz hF
      by_cases hn : nx = ny
      · rw [if_neg (fun h => h hn)] at hR
        subst hn
        have HR2 := Lib.hid hR
        clear hR
        go_upto_region 4 with (fail)
        go_cut [26] (fun b wx => b = .bool false ∧ FB64 w wx)
        case first =>
          obtain ⟨z0, z1, z2, z3, z4, z5, z6⟩ := HF.out
          clear z5 z6
          cases nx
          all_goals
            first
              | go_region_with (first | (go_at_call_of 36 (Value.int IntKind.u64 (x : Int)); refine (N1.out _).mono ?_; rintro e w1 ⟨rfl, hb⟩; obtain ⟨c0, c1, c2, c3, c4, c5, c6⟩ := FB64.step (w := w) HFd.out hb; clear hb) | (go_at_call_of 36 (Value.int IntKind.u64 (y : Int)); refine (N2.out _).mono ?_; rintro e w2 ⟨rfl, hb⟩; obtain ⟨k0, k1, k2, k3, k4, k5, k6⟩ := FB64.step (w := w) ⟨c0, c1, c2, c3, c4, c5, c6⟩ hb; clear hb))
              | fail
            all_goals go_wp2_with fail
            all_goals
              go_meet
              exact ⟨rfl, ⟨by assumption, by assumption, by assumption, by assumption, by assumption, by assumption, by assumption⟩⟩
        case rest =>
          obtain ⟨rfl, hF2⟩ := hcut
          have HF2d := Lib.hid (FB64.drew hF2)
          clear hF2
          go_upto_region 6 with (fail)
          go_cut [39] (fun b wx => b = .bool false ∧ FB64 w wx)
          case first =>
            cases nx
            all_goals
              go_region_held3 (fun w' => FB64 w w') (first | assumption | exact HF2d.out) (first | (go_at_call_of 36 (Value.int IntKind.u64 (x : Int)); refine (N1.out _).mono ?_; rintro e w1 ⟨rfl, hb⟩; have hs1 := FB64.step (w := w) (by assumption) hb; clear hb) | (go_at_call_of 36 (Value.int IntKind.u64 (y : Int)); refine (N2.out _).mono ?_; rintro e w2 ⟨rfl, hb⟩; have hs2 := FB64.step (w := w) (by assumption) hb; clear hb))
              go_wp2_with fail
              go_meet
              exact ⟨rfl, by assumption⟩
          case rest =>
            obtain ⟨rfl, hF3⟩ := hcut
            have HF3 := Lib.hid hF3
            obtain ⟨c0, c1, c2, c3, c4, c5, c6⟩ := hF3
            clear c5 c6
            rcases Nat.lt_trichotomy mx my with h1 | h1 | h1
            · have d1 : ((mx : Int) == (my : Int)) = false := beq_eq_false_iff_ne.mpr (by omega)
              have d2 : decide (mx < my) = true := decide_eq_true h1
              have hR2 := HR2.out
              rw [if_neg (by omega), d2] at hR2
              cases nx
              · have HR3 : Hid (R = -1) := Lib.hid (by rw [hR2]; rfl)
                clear hR2 d2
                go_wp2_with fail
                refine (N1.out _).mono ?_
                rintro e w1 ⟨rfl, hb⟩
                have HB := Lib.hid (FB64.step HF3.out hb).below
                clear hb
                go_wp2_with fail
                go_ret
                exact ⟨by rw [HR3.out]; rfl, HB.out⟩
              · have HR3 : Hid (R = 1) := Lib.hid (by rw [hR2]; rfl)
                clear hR2 d2
                go_wp2_with fail
                refine (N1.out _).mono ?_
                rintro e w1 ⟨rfl, hb⟩
                have HB := Lib.hid (FB64.step HF3.out hb).below
                clear hb
                go_wp2_with fail
                go_ret
                exact ⟨by rw [HR3.out]; rfl, HB.out⟩
            · have d1 : ((mx : Int) == (my : Int)) = true := by simp [h1]
              have HR3 : Hid (R = 0) := Lib.hid (by rw [HR2.out, if_pos h1])
              clear h1
              go_wp2_with fail
              go_ret
              exact ⟨by rw [HR3.out]; rfl, FB64.below HF3.out⟩
            · have d1 : ((mx : Int) == (my : Int)) = false := beq_eq_false_iff_ne.mpr (by omega)
              have d2 : decide (mx < my) = false := decide_eq_false (by omega)
              have q1 : ¬ mx < my := by omega
              have hR2 := HR2.out
              rw [if_neg (by omega), d2] at hR2
              cases nx
              · have HR3 : Hid (R = 1) := Lib.hid (by rw [hR2]; rfl)
                clear hR2 d2
                go_wp2_with fail
                refine (N1.out _).mono ?_
                rintro e w1 ⟨rfl, hb⟩
                have HB := Lib.hid (FB64.step HF3.out hb).below
                clear hb
                go_wp2_with fail
                go_ret
                exact ⟨by rw [HR3.out]; rfl, HB.out⟩
              · have HR3 : Hid (R = -1) := Lib.hid (by rw [hR2]; rfl)
                clear hR2 d2
                go_wp2_with fail
                refine (N1.out _).mono ?_
                rintro e w1 ⟨rfl, hb⟩
                have HB := Lib.hid (FB64.step HF3.out hb).below
                clear hb
                go_wp2_with fail
                go_ret
                exact ⟨by rw [HR3.out]; rfl, HB.out⟩
      · rw [if_pos hn] at hR
        cases nx
        · cases ny
          · exact absurd rfl hn
          · have HR2 : Hid (R = 1) := Lib.hid (by rw [hR]; rfl)
            clear hn hR
            go_wp2_with fail
            go_region_held3 (fun w' => FB64 w w') (first | assumption | exact HFd.out) (first | (go_at_call_of 36 (Value.int IntKind.u64 (x : Int)); refine (N1.out _).mono ?_; rintro e w1 ⟨rfl, hb⟩; have hs1 := FB64.step (w := w) (by assumption) hb; clear hb) | (go_at_call_of 36 (Value.int IntKind.u64 (y : Int)); refine (N2.out _).mono ?_; rintro e w2 ⟨rfl, hb⟩; have hs2 := FB64.step (w := w) (by assumption) hb; clear hb))
            go_wp2_with fail
            go_region_held3 (fun w' => FB64 w w') (first | assumption | exact FB64.drew (by assumption)) (first | (go_at_call_of 36 (Value.int IntKind.u64 (x : Int)); refine (N1.out _).mono ?_; rintro e w1 ⟨rfl, hb⟩; have hs1 := FB64.step (w := w) (by assumption) hb; clear hb) | (go_at_call_of 36 (Value.int IntKind.u64 (y : Int)); refine (N2.out _).mono ?_; rintro e w2 ⟨rfl, hb⟩; have hs2 := FB64.step (w := w) (by assumption) hb; clear hb))
            go_wp2_with fail
            go_ret
            exact ⟨by rw [HR2.out]; rfl, FB64.below (by assumption)⟩
        · cases ny
          · have HR2 : Hid (R = -1) := Lib.hid (by rw [hR]; rfl)
            clear hn hR
            go_wp2_with fail
            go_region_held3 (fun w' => FB64 w w') (first | assumption | exact HFd.out) (first | (go_at_call_of 36 (Value.int IntKind.u64 (x : Int)); refine (N1.out _).mono ?_; rintro e w1 ⟨rfl, hb⟩; have hs1 := FB64.step (w := w) (by assumption) hb; clear hb) | (go_at_call_of 36 (Value.int IntKind.u64 (y : Int)); refine (N2.out _).mono ?_; rintro e w2 ⟨rfl, hb⟩; have hs2 := FB64.step (w := w) (by assumption) hb; clear hb))
            go_wp2_with fail
            go_ret
            exact ⟨by rw [HR2.out]; rfl, FB64.below (by assumption)⟩
          · exact absurd rfl hn
    · have HR2 : Hid (R = 0) := Lib.hid (by rw [HR.out, if_pos (of_decide_eq_true HZ.out.symm)])
      clear hF
      go_wp2_with fail
      go_ret
      exact ⟨by rw [HR2.out]; rfl, FB64.below HF.out⟩
def cmpS32 (x y : Nat) : Int :=
  if mag32 x = 0 ∧ mag32 y = 0 then 0 else if neg32 x ≠ neg32 y then (if neg32 x then -1 else 1) else if mag32 x = mag32 y then 0 else if decide (mag32 x < mag32 y) ≠ neg32 x then -1 else 1

theorem mag_bits32 {x : Nat} (hx : x < 4294967296) : bits .andNot .u64 (x : Int) 2147483648 = ((mag32 x : Nat) : Int) := by
  rw [show (2147483648 : Int) = ((2147483648 : Nat) : Int) from rfl, u64_andNot_nat _ _ (by omega) (by omega)]
  congr 1
  have e : x = sb32 x + mag32 x := (sb_add_mag32 x).symm
  have hm := mag_lt32 x
  apply Nat.eq_of_testBit_eq
  intro i
  rw [Nat.testBit_and]
  unfold mag32
  rw [show (2147483648 : Nat) = 2 ^ 31 from rfl, Nat.testBit_mod_two_pow]
  by_cases hi : i < 31
  · have : (18446744073709551615 - 2 ^ 31 : Nat).testBit i = true := by
      have h := (by decide : ∀ i : Fin 31, (18446744073709551615 - 2 ^ 31 : Nat).testBit i.val = true)
      exact h ⟨i, hi⟩
    rw [this]; simp [hi]
  · have hx2 : x.testBit i = true → i = 31 := by
      intro h
      have := Nat.ge_two_pow_of_testBit h
      have h2 : 2 ^ i < 2 ^ (31 + 1) := by
        refine Nat.lt_of_le_of_lt this ?_
        exact hx
      have := (Nat.pow_lt_pow_iff_right (a := 2) (by omega)).mp h2
      omega
    by_cases hb : x.testBit i = true
    · rw [hx2 hb]
      have : (18446744073709551615 - 2 ^ 31 : Nat).testBit 31 = false := by decide
      rw [this]; simp
    · simp [hb]

set_option maxRecDepth 100000 in
set_option maxHeartbeats 2000000 in
theorem fcmpS32_any (x y : Nat) (w : World) (hx : x < 4294967296) (hy : y < 4294967296) : Calls Try.prog 24 #[.agg #[.int .i64 24, .int .i64 23, .int .i64 (-149), .int .u64 255, .int .u64 2147483648], .int .u64 (x : Int), .int .u64 (y : Int)] w (RetB (.int .i64 (cmpS32 x y)) w) := by
  have a1 := mag_bits32 hx
  have a2 := mag_bits32 hy
  have HF0 := Lib.hid (FB32.start0 w)
  have Z1 := Lib.hid fun w => fzero32_any x w hx
  have Z2 := Lib.hid fun w => fzero32_any y w hy
  have N1 := Lib.hid fun w => fneg32_any x w hx
  have N2 := Lib.hid fun w => fneg32_any y w hy
  clear hx hy
  unfold isZero32 at *
  obtain ⟨R, hR⟩ : ∃ R, R = cmpS32 x y := ⟨_, rfl⟩
  rw [← hR]
  unfold cmpS32 at hR
  generalize mag32 x = mx at *
  generalize mag32 y = my at *
  generalize neg32 x = nx at *
  generalize neg32 y = ny at *
  obtain ⟨Z, hZ⟩ : ∃ Z : Bool, Z = decide (mx = 0 ∧ my = 0) := ⟨_, rfl⟩
  have HZ := Lib.hid hZ
  have HR := Lib.hid hR
  clear hZ hR
  go_enter Try.func24, Try.ntmps24
  go_wp2_with fail
  go_quiet (fail)
  have HF1 := Lib.hid (FB32.drewN HF0.out nq)
  go_upto_region 2 with (fail)
  go_cut [17] (fun b wx => b = .bool Z ∧ FB32 w wx)
  case first =>
    by_cases hzx : mx = 0
    · have d1 : decide (mx = 0) = true := decide_eq_true hzx
      rw [d1] at Z1
      by_cases hzy : my = 0
      · have d2 : decide (my = 0) = true := decide_eq_true hzy
        rw [d2] at Z2
        have eZ : Z = true := by rw [HZ.out]; exact decide_eq_true ⟨hzx, hzy⟩
        subst eZ
        clear hzx hzy d1 d2
        go_wp2_with fail
        refine (Z1.out _).mono ?_
        rintro e w1 ⟨rfl, hb⟩
        have hs := FB32.step HF1.out hb
        have HS := Lib.hid hs
        obtain ⟨c0, c1, c2, c3, c4, c5, c6⟩ := hs
        clear hb c5 c6
        go_wp2_with fail
        refine (Z2.out _).mono ?_
        rintro e w2 ⟨rfl, hb⟩
        have HS2 := Lib.hid (FB32.step HS.out hb)
        clear hb
        go_wp2_with fail
        go_meet
        exact ⟨rfl, HS2.out⟩
      · have d2 : decide (my = 0) = false := decide_eq_false hzy
        rw [d2] at Z2
        have eZ : Z = false := by rw [HZ.out]; exact decide_eq_false fun h => hzy h.2
        subst eZ
        clear hzx hzy d1 d2
        go_wp2_with fail
        refine (Z1.out _).mono ?_
        rintro e w1 ⟨rfl, hb⟩
        have hs := FB32.step HF1.out hb
        have HS := Lib.hid hs
        obtain ⟨c0, c1, c2, c3, c4, c5, c6⟩ := hs
        clear hb c5 c6
        go_wp2_with fail
        refine (Z2.out _).mono ?_
        rintro e w2 ⟨rfl, hb⟩
        have HS2 := Lib.hid (FB32.step HS.out hb)
        clear hb
        go_wp2_with fail
        go_meet
        exact ⟨rfl, HS2.out⟩
    · have d1 : decide (mx = 0) = false := decide_eq_false hzx
      rw [d1] at Z1
      have eZ : Z = false := by rw [HZ.out]; exact decide_eq_false fun h => hzx h.1
      subst eZ
      clear hzx d1
      go_wp2_with fail
      refine (Z1.out _).mono ?_
      rintro e w1 ⟨rfl, hb⟩
      have HS := Lib.hid (FB32.step HF1.out hb)
      clear hb
      go_wp2_with fail
      go_meet
      exact ⟨rfl, HS.out⟩
  case rest =>
    obtain ⟨rfl, hF⟩ := hcut
    have HF := Lib.hid hF
    have HFd := Lib.hid (FB32.drew hF)
    cases Z
    · have hz : ¬ (mx = 0 ∧ my = 0) := of_decide_eq_false HZ.out.symm
      have hR := HR.out
      rw [if_neg hz] at hR
      clear hz hF
      by_cases hn : nx = ny
      · rw [if_neg (fun h => h hn)] at hR
        subst hn
        have HR2 := Lib.hid hR
        clear hR
        go_upto_region 4 with (fail)
        go_cut [26] (fun b wx => b = .bool false ∧ FB32 w wx)
        case first =>
          obtain ⟨z0, z1, z2, z3, z4, z5, z6⟩ := HF.out
          clear z5 z6
          cases nx
          all_goals
            first
              | go_region_with (first | (go_at_call_of 36 (Value.int IntKind.u64 (x : Int)); refine (N1.out _).mono ?_; rintro e w1 ⟨rfl, hb⟩; obtain ⟨c0, c1, c2, c3, c4, c5, c6⟩ := FB32.step (w := w) HFd.out hb; clear hb) | (go_at_call_of 36 (Value.int IntKind.u64 (y : Int)); refine (N2.out _).mono ?_; rintro e w2 ⟨rfl, hb⟩; obtain ⟨k0, k1, k2, k3, k4, k5, k6⟩ := FB32.step (w := w) ⟨c0, c1, c2, c3, c4, c5, c6⟩ hb; clear hb))
              | fail
            all_goals go_wp2_with fail
            all_goals
              go_meet
              exact ⟨rfl, ⟨by assumption, by assumption, by assumption, by assumption, by assumption, by assumption, by assumption⟩⟩
        case rest =>
          obtain ⟨rfl, hF2⟩ := hcut
          have HF2d := Lib.hid (FB32.drew hF2)
          clear hF2
          go_upto_region 6 with (fail)
          go_cut [39] (fun b wx => b = .bool false ∧ FB32 w wx)
          case first =>
            cases nx
            all_goals
              go_region_held3 (fun w' => FB32 w w') (first | assumption | exact HF2d.out) (first | (go_at_call_of 36 (Value.int IntKind.u64 (x : Int)); refine (N1.out _).mono ?_; rintro e w1 ⟨rfl, hb⟩; have hs1 := FB32.step (w := w) (by assumption) hb; clear hb) | (go_at_call_of 36 (Value.int IntKind.u64 (y : Int)); refine (N2.out _).mono ?_; rintro e w2 ⟨rfl, hb⟩; have hs2 := FB32.step (w := w) (by assumption) hb; clear hb))
              go_wp2_with fail
              go_meet
              exact ⟨rfl, by assumption⟩
          case rest =>
            obtain ⟨rfl, hF3⟩ := hcut
            have HF3 := Lib.hid hF3
            obtain ⟨c0, c1, c2, c3, c4, c5, c6⟩ := hF3
            clear c5 c6
            rcases Nat.lt_trichotomy mx my with h1 | h1 | h1
            · have d1 : ((mx : Int) == (my : Int)) = false := beq_eq_false_iff_ne.mpr (by omega)
              have d2 : decide (mx < my) = true := decide_eq_true h1
              have hR2 := HR2.out
              rw [if_neg (by omega), d2] at hR2
              cases nx
              · have HR3 : Hid (R = -1) := Lib.hid (by rw [hR2]; rfl)
                clear hR2 d2
                go_wp2_with fail
                refine (N1.out _).mono ?_
                rintro e w1 ⟨rfl, hb⟩
                have HB := Lib.hid (FB32.step HF3.out hb).below
                clear hb
                go_wp2_with fail
                go_ret
                exact ⟨by rw [HR3.out]; rfl, HB.out⟩
              · have HR3 : Hid (R = 1) := Lib.hid (by rw [hR2]; rfl)
                clear hR2 d2
                go_wp2_with fail
                refine (N1.out _).mono ?_
                rintro e w1 ⟨rfl, hb⟩
                have HB := Lib.hid (FB32.step HF3.out hb).below
                clear hb
                go_wp2_with fail
                go_ret
                exact ⟨by rw [HR3.out]; rfl, HB.out⟩
            · have d1 : ((mx : Int) == (my : Int)) = true := by simp [h1]
              have HR3 : Hid (R = 0) := Lib.hid (by rw [HR2.out, if_pos h1])
              clear h1
              go_wp2_with fail
              go_ret
              exact ⟨by rw [HR3.out]; rfl, FB32.below HF3.out⟩
            · have d1 : ((mx : Int) == (my : Int)) = false := beq_eq_false_iff_ne.mpr (by omega)
              have d2 : decide (mx < my) = false := decide_eq_false (by omega)
              have q1 : ¬ mx < my := by omega
              have hR2 := HR2.out
              rw [if_neg (by omega), d2] at hR2
              cases nx
              · have HR3 : Hid (R = 1) := Lib.hid (by rw [hR2]; rfl)
                clear hR2 d2
                go_wp2_with fail
                refine (N1.out _).mono ?_
                rintro e w1 ⟨rfl, hb⟩
                have HB := Lib.hid (FB32.step HF3.out hb).below
                clear hb
                go_wp2_with fail
                go_ret
                exact ⟨by rw [HR3.out]; rfl, HB.out⟩
              · have HR3 : Hid (R = -1) := Lib.hid (by rw [hR2]; rfl)
                clear hR2 d2
                go_wp2_with fail
                refine (N1.out _).mono ?_
                rintro e w1 ⟨rfl, hb⟩
                have HB := Lib.hid (FB32.step HF3.out hb).below
                clear hb
                go_wp2_with fail
                go_ret
                exact ⟨by rw [HR3.out]; rfl, HB.out⟩
      · rw [if_pos hn] at hR
        cases nx
        · cases ny
          · exact absurd rfl hn
          · have HR2 : Hid (R = 1) := Lib.hid (by rw [hR]; rfl)
            clear hn hR
            go_wp2_with fail
            go_region_held3 (fun w' => FB32 w w') (first | assumption | exact HFd.out) (first | (go_at_call_of 36 (Value.int IntKind.u64 (x : Int)); refine (N1.out _).mono ?_; rintro e w1 ⟨rfl, hb⟩; have hs1 := FB32.step (w := w) (by assumption) hb; clear hb) | (go_at_call_of 36 (Value.int IntKind.u64 (y : Int)); refine (N2.out _).mono ?_; rintro e w2 ⟨rfl, hb⟩; have hs2 := FB32.step (w := w) (by assumption) hb; clear hb))
            go_wp2_with fail
            go_region_held3 (fun w' => FB32 w w') (first | assumption | exact FB32.drew (by assumption)) (first | (go_at_call_of 36 (Value.int IntKind.u64 (x : Int)); refine (N1.out _).mono ?_; rintro e w1 ⟨rfl, hb⟩; have hs1 := FB32.step (w := w) (by assumption) hb; clear hb) | (go_at_call_of 36 (Value.int IntKind.u64 (y : Int)); refine (N2.out _).mono ?_; rintro e w2 ⟨rfl, hb⟩; have hs2 := FB32.step (w := w) (by assumption) hb; clear hb))
            go_wp2_with fail
            go_ret
            exact ⟨by rw [HR2.out]; rfl, FB32.below (by assumption)⟩
        · cases ny
          · have HR2 : Hid (R = -1) := Lib.hid (by rw [hR]; rfl)
            clear hn hR
            go_wp2_with fail
            go_region_held3 (fun w' => FB32 w w') (first | assumption | exact HFd.out) (first | (go_at_call_of 36 (Value.int IntKind.u64 (x : Int)); refine (N1.out _).mono ?_; rintro e w1 ⟨rfl, hb⟩; have hs1 := FB32.step (w := w) (by assumption) hb; clear hb) | (go_at_call_of 36 (Value.int IntKind.u64 (y : Int)); refine (N2.out _).mono ?_; rintro e w2 ⟨rfl, hb⟩; have hs2 := FB32.step (w := w) (by assumption) hb; clear hb))
            go_wp2_with fail
            go_ret
            exact ⟨by rw [HR2.out]; rfl, FB32.below (by assumption)⟩
          · exact absurd rfl hn
    · have HR2 : Hid (R = 0) := Lib.hid (by rw [HR.out, if_pos (of_decide_eq_true HZ.out.symm)])
      clear hF
      go_wp2_with fail
      go_ret
      exact ⟨by rw [HR2.out]; rfl, FB32.below HF.out⟩
end Go.Proofs.Ytdadcbjhjmdheaa.SF
