/-
  The walk through f64toint.
-/
import Derived.Test.YtignbdajgnnlpaaIntP
import Derived.Test.YtignbdajgnnlpaaRet
import Derived.Test.YtignbdajgnnlpaaPackR
namespace Go.Proofs.Ytignbdajgnnlpaa.SF
open Go.ChangeShapes Go.WideShapes Go.ChangeAt Go.RowKit
set_option linter.unusedVariables false

theorem tiB_small {x : Nat} (h : tiB x = true) : fin64 x = true ∧ wh64 x < 18446744073709551616 := by
  unfold tiB at h
  simp only [Bool.and_eq_true, decide_eq_true_eq] at h
  exact ⟨h.1.1, h.1.2⟩
/-- kinds of floats, and what is made of them -/
theorem ti_not {x : Nat} (h : fin64 x = false) : tiV x = 0 ∧ tiB x = false := by
  unfold tiV tiB
  rw [h]
  exact ⟨rfl, rfl⟩
theorem ti_small {x : Nat} (hf : fin64 x = true) (h : ue64 x < -1) (hw : wh64 x = 0) : tiV x = 0 ∧ tiB x = false := by
  unfold tiV tiB tiS
  rw [hf, hw, decide_eq_false (show ¬ -1 ≤ ue64 x by omega)]
  refine ⟨?_, by simp⟩
  cases neg64 x <;> decide
theorem ti_great {x : Nat} (hw : 18446744073709551616 ≤ wh64 x) : tiV x = 0 ∧ tiB x = false := by
  unfold tiV tiB
  rw [decide_eq_false (show ¬ wh64 x < 18446744073709551616 by omega)]
  simp
theorem ti_mid {x : Nat} (hf : fin64 x = true) (h : -1 ≤ ue64 x) (hw : wh64 x < 18446744073709551616) : tiV x = tiS (neg64 x) (wh64 x) ∧ tiB x = true := by
  unfold tiV tiB
  rw [hf, decide_eq_true hw, decide_eq_true h]
  exact ⟨rfl, rfl⟩
/-- the loops: the mantissa is doubled, halved -/
def TiUp (m : Nat) (e : Int) (a b : Value) : Prop := ∃ i : Nat, a = .int .u64 ((m * 2 ^ i : Nat) : Int) ∧ b = .int .i64 (e - i) ∧ (i = 0 ∨ 52 ≤ e - i)
def TiDn (m : Nat) (e : Int) (a b : Value) : Prop := ∃ i : Nat, a = .int .u64 ((m / 2 ^ i : Nat) : Int) ∧ b = .int .i64 (e + i) ∧ (i = 0 ∨ e + i ≤ 52)
theorem ti_up_lt {m i : Nat} {e : Int} (hm : m < 9007199254740992) (he : e ≤ 63) (hi : i = 0 ∨ 52 ≤ e - i) : m * 2 ^ i < 18446744073709551616 := by
  have hi11 : i ≤ 11 := by omega
  have h1 : (2 : Nat) ^ i ≤ 2 ^ 11 := Nat.pow_le_pow_right (by omega) hi11
  have h2 : m * 2 ^ i ≤ m * 2 ^ 11 := Nat.mul_le_mul_left _ h1
  omega
theorem ti_end {um t : Nat} {e : Int} {v : Nat} (hv : um * 2 ^ t = v * 2 ^ 52) (ht : (t : Int) = e + 1074) {i j : Nat} (hi : i = 0 ∨ 52 ≤ e - i) (hj : j = 0 ∨ e - i + j ≤ 52) (h1 : ¬ 52 < e - i) (h2 : ¬ e - i + j < 52) : um * 2 ^ i / 2 ^ j = v / 2 ^ 1074 := by
  by_cases g : 52 ≤ e
  · have hj0 : j = 0 := by omega
    rw [wh_hi (u := i) hv (by omega), hj0, Nat.pow_zero, Nat.div_one]
  · have hi0 : i = 0 := by omega
    rw [wh_lo (j := j) hv (by omega), hi0, Nat.pow_zero, Nat.mul_one]
set_option maxRecDepth 100000 in
set_option maxHeartbeats 2000000 in
theorem ti_walk (x : Nat) (w : World) (neg : Bool) (um : Nat) (e : Int) (W : Nat) (hum : um < 9007199254740992) (he1 : -1 ≤ e) (he2 : e ≤ 63)
    (hW : ∀ i j : Nat, (i = 0 ∨ 52 ≤ e - i) → (j = 0 ∨ e - i + j ≤ 52) → ¬ 52 < e - i → ¬ e - i + j < 52 → um * 2 ^ i / 2 ^ j = W)
    (G1 : Hid (Calls Try.prog 75 #[.int .u64 (x : Int)] w fun e' w' => e' = .returned (.tuple #[.int .u64 ((sgn64 neg 0 : Nat) : Int), .int .u64 (um : Int), .int .i64 e, .bool false, .bool false]) ∧ w = w')) :
    Calls Try.prog 56 #[.int .u64 (x : Int)] w (RetW (.tuple #[.int .i64 (tiS neg W), .bool true]) w) := by
  have e4 : (((sgn64 neg 0 : Nat) : Int) != 0) = neg := sgn_ne064 neg
  have d1 : decide (e < -1) = false := decide_eq_false (by omega)
  have d2 : decide (63 < e) = false := decide_eq_false (by omega)
  have HW := Lib.hid hW
  clear hW
  generalize sgn64 neg 0 = sg at *
  go_enter Try.func56, Try.ntmps56
  go_wp2_with fail
  refine (G1.out).mono ?_
  rintro e' w' ⟨rfl, rfl⟩
  go_wp2_with fail
  go_loop [5, 6] (fun a b => TiUp um e a b) (fun a b => (intOf b).toNat)
  case atStart => exact ⟨0, by simp, by simp, .inl rfl⟩
  case round =>
    obtain ⟨i, rfl, rfl, hi⟩ := hrel
    have hb := ti_up_lt hum he2 hi
    have HI := Lib.hid hi
    by_cases hlt : 52 < e - i
    · have HL := Lib.hid hlt
      have hd := decide_eq_true hlt
      have hb2 : um * 2 ^ (i + 1) < 18446744073709551616 := ti_up_lt hum he2 (.inr (by omega))
      have e2 : um * 2 ^ (i + 1) = um * 2 ^ i * 2 := by rw [Nat.pow_succ, Nat.mul_assoc]
      have HE := Lib.hid e2
      rw [e2] at hb2
      have w1 : IntKind.i64.wrap (e - (i : Int) - 1) = e - (i : Int) - 1 := IntWalk.i64_in _ (by omega)
      clear e2 hlt hi
      generalize um * 2 ^ i = g at *
      go_wp2_with fail
      go_round
      case rel => exact ⟨i + 1, by rw [HE.out]; go_num, by go_num, .inr (by have := HL.out; omega)⟩
      case measure => simp [intOf]; have := HL.out; omega
    · have HL := Lib.hid hlt
      have hd := decide_eq_false hlt
      clear hlt hi
      have he3 : e - i ≤ 52 := by have := HL.out; omega
      have he4 : -1 ≤ e - i := by have := HI.out; omega
      generalize hgd : um * 2 ^ i = g at *
      have HG := Lib.hid hgd
      clear hgd
      go_wp2_with fail
      go_loop [5, 6] (fun a b => TiDn g (e - i) a b) (fun a b => (53 - intOf b).toNat)
      case atStart => exact ⟨0, by simp, by simp, .inl rfl⟩
      case round =>
        obtain ⟨j, rfl, rfl, hj⟩ := hrel
        have hgj : g / 2 ^ j < 18446744073709551616 := Nat.lt_of_le_of_lt (Nat.div_le_self _ _) hb
        have HJ := Lib.hid hj
        by_cases hlt : e - i + j < 52
        · have HL2 := Lib.hid hlt
          have hd2 := decide_eq_true hlt
          have e2 : g / 2 ^ (j + 1) = g / 2 ^ j / 2 := by rw [Nat.pow_succ, Nat.div_div_eq_div_mul]
          have HE := Lib.hid e2
          have w1 : IntKind.i64.wrap (e - (i : Int) + (j : Int) + 1) = e - (i : Int) + (j : Int) + 1 := IntWalk.i64_in _ (by omega)
          clear e2 hlt hj
          generalize g / 2 ^ j = f at *
          go_wp2_with fail
          go_round
          case rel => exact ⟨j + 1, by rw [HE.out]; go_num, by go_num, .inr (by have := HL2.out; omega)⟩
          case measure => simp [intOf]; have := HL2.out; omega
        · have hWe : g / 2 ^ j = W := by rw [← HG.out]; exact HW.out i j HI.out HJ.out (by have := HL.out; omega) (by omega)
          have hd2 := decide_eq_false hlt
          rw [hWe] at hgj ⊢
          clear hlt hj hWe
          cases neg
          · have hv : tiS false W = IntKind.i64.wrap (W : Int) := rfl
            generalize hV : IntKind.i64.wrap (W : Int) = V at *
            have HV := Lib.hid hv
            clear hv
            go_wp2_with fail
            go_ret2
            exact ⟨by rw [HV.out]; rfl, rfl⟩
          · have hv : tiS true W = IntKind.i64.wrap (-(IntKind.i64.wrap (W : Int))) := rfl
            generalize hV : IntKind.i64.wrap (W : Int) = V at *
            generalize hV2 : IntKind.i64.wrap (-V) = V2 at *
            have HV := Lib.hid hv
            clear hv
            go_wp2_with fail
            go_ret2
            exact ⟨by rw [HV.out]; rfl, rfl⟩
set_option maxRecDepth 100000 in
set_option maxHeartbeats 2000000 in
theorem f64toint_ret (x : Nat) (w : World) (hx : x < 18446744073709551616) : Calls Try.prog 56 #[.int .u64 (x : Int)] w (RetW (.tuple #[.int .i64 (tiV x), .bool (tiB x)]) w) := by
  have H1 := funpack64_any x w hx
  unfold Tup564 at H1
  rw [sb_sgn64 hx] at H1
  rcases kinds64 x with nx | ⟨nx, ix, zx, mx, gx⟩ | ⟨nx, ix, zx, mx, gx, ex0⟩ | ⟨nx, ix, zx, gx1, gx2, mx1, mx2, ex1, ex2, t1, et1, vt1⟩
  · have hf : fin64 x = false := fin_not64.mpr (by have := nan_iff64.mp nx; omega)
    rw [(ti_not hf).1, (ti_not hf).2]
    rw [nx] at H1
    generalize isInf64 x = ix at *
    have G1 := Lib.hid H1
    clear H1 hx nx hf
    cases ix
    all_goals
      go_enter Try.func56, Try.ntmps56
      go_wp2_with fail
      refine (G1.out).mono ?_
      rintro e w' ⟨rfl, rfl⟩
      go_wp2_with fail
      go_ret2
      exact ⟨rfl, rfl⟩
  · have hf : fin64 x = false := fin_not64.mpr (by omega)
    rw [(ti_not hf).1, (ti_not hf).2]
    rw [nx, ix] at H1
    have G1 := Lib.hid H1
    clear H1 hx nx hf ix zx mx gx
    go_enter Try.func56, Try.ntmps56
    go_wp2_with fail
    refine (G1.out).mono ?_
    rintro e w' ⟨rfl, rfl⟩
    go_wp2_with fail
    go_ret2
    exact ⟨rfl, rfl⟩
  · have hf : fin64 x = true := fin_iff64.mpr (by omega)
    have hw0 : wh64 x = 0 := by
      unfold wh64 val64
      rw [gx, val_zero]
      generalize 2 ^ 1074 = p
      exact Nat.zero_div _
    have hm := ti_mid hf (by omega) (show wh64 x < 18446744073709551616 by omega)
    rw [hm.1, hm.2]
    rw [nx, ix, mx, ex0] at H1
    exact ti_walk x w (neg64 x) 0 0 (wh64 x) (by omega) (by omega) (by omega) (fun i j _ _ _ _ => by rw [hw0, Nat.zero_mul, Nat.zero_div]) (Lib.hid H1)
  · have hf : fin64 x = true := fin_iff64.mpr (by omega)
    rw [nx, ix] at H1
    have hvt : um64 x * 2 ^ t1 = val64 x * 2 ^ 52 := by rw [vt1]
    by_cases h1 : ue64 x < -1
    · have hw0 : wh64 x = 0 := wh_nought mx2 hvt (by omega)
      rw [(ti_small hf h1 hw0).1, (ti_small hf h1 hw0).2]
      have d1 := decide_eq_true h1
      have G1 := Lib.hid H1
      generalize um64 x = um at *
      generalize ue64 x = ue at *
      clear H1 hx nx hf ix zx gx1 gx2 mx1 mx2 ex1 ex2 et1 vt1 hvt hw0 h1
      go_enter Try.func56, Try.ntmps56
      go_wp2_with fail
      refine (G1.out).mono ?_
      rintro e w' ⟨rfl, rfl⟩
      go_wp2_with fail
      go_ret2
      exact ⟨rfl, rfl⟩
    · by_cases h2 : 63 < ue64 x
      · have hw0 : 18446744073709551616 ≤ wh64 x := wh_big mx1 hvt (by omega)
        rw [(ti_great hw0).1, (ti_great hw0).2]
        have d1 := decide_eq_false h1
        have d2 := decide_eq_true h2
        have d3 : ((um64 x : Int) == 0) = false := beq_eq_false_iff_ne.mpr (by omega)
        have e4 : (((sgn64 (neg64 x) 0 : Nat) : Int) != 0) = neg64 x := sgn_ne064 _
        generalize sgn64 (neg64 x) 0 = sg at *
        generalize neg64 x = neg at *
        have G1 := Lib.hid H1
        generalize um64 x = um at *
        generalize ue64 x = ue at *
        clear H1 hx nx hf ix zx gx1 gx2 mx1 mx2 ex1 ex2 et1 vt1 hvt hw0 h1 h2
        cases neg
        all_goals
          go_enter Try.func56, Try.ntmps56
          go_wp2_with fail
          refine (G1.out).mono ?_
          rintro e w' ⟨rfl, rfl⟩
          go_wp2_with fail
          go_ret2
          exact ⟨rfl, rfl⟩
      · have hw0 : wh64 x < 18446744073709551616 := wh_small mx2 hvt (by omega)
        have hm := ti_mid hf (by omega) hw0
        rw [hm.1, hm.2]
        exact ti_walk x w (neg64 x) (um64 x) (ue64 x) (wh64 x) mx2 (by omega) (by omega) (fun i j hi hj g1 g2 => by unfold wh64; exact ti_end hvt et1 hi hj g1 g2) (Lib.hid H1)
end Go.Proofs.Ytignbdajgnnlpaa.SF
