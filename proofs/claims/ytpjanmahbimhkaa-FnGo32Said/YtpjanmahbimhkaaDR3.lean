/-
  Plain mathematics: sums, products and quotients of 32 bits by way of 64 bits are the exact ones, rounded once.
-/
import Derived.Test.YtpjanmahbimhkaaDR2
namespace Go.Proofs.Ytpjanmahbimhkaa.SF
open Go.RowKit
set_option linter.unusedVariables false

theorem nq_narrow : narrow 9221120237041090560 = 2143289344 := narrow_nan (by decide)
theorem inf_narrow (a : Bool) : narrow (sgn64 a 9218868437227405312) = sgn32 a 2139095040 := by
  rw [narrow_inf (by cases a <;> decide), neg_sgn64 a (by omega)]
theorem zero_narrow (a : Bool) : narrow (sgn64 a 0) = sgn32 a 0 := by
  rw [narrow_fin (by cases a <;> decide), neg_sgn64 a (by omega)]
  have hv : val64 (sgn64 a 0) = 0 := val_zero64 (mag_sgn64 a (by omega))
  rw [hv, rd_zero32 a (two_pow_pos 925)]
/-- the nearest float of 64 bits, made narrow -/
theorem narrow_rd {a : Bool} {A B : Nat} (hlt : rn 52 A B < 9218868437227405312) : narrow (rd64 a A B) = rd32 a (val 52 (rn 52 A B)) (2 ^ 925) := by
  have hm : min (rn 52 A B) 9218868437227405312 = rn 52 A B := Nat.min_eq_left (by omega)
  have hmag := mag_rd64 a A B
  rw [hm] at hmag
  rw [narrow_fin (fin_iff64.mpr (by rw [hmag]; exact hlt)), neg_rd64]
  unfold val64
  rw [hmag]
theorem q925 : 2 ^ 925 = 2 * 2 ^ (896 + 28) := by
  have h := pow_succ2 (896 + 28)
  rw [show 896 + 28 + 1 = 925 from rfl] at h
  exact h
theorem scale_le1 {a b c R : Nat} (hR : 0 < R) (h : 2 * (a * R) ≤ 2 * (b * 268435456 * R) + c * R) : 2 * a ≤ 536870912 * b + c := by
  apply Nat.le_of_mul_le_mul_right _ hR
  rw [Nat.add_mul, Nat.mul_assoc, Nat.mul_assoc]
  rw [show b * 268435456 * R = 268435456 * (b * R) by ac_rfl] at h
  omega
theorem scale_le2 {a b c R : Nat} (hR : 0 < R) (h : 2 * (b * 268435456 * R) ≤ 2 * (a * R) + c * R) : 536870912 * b ≤ 2 * a + c := by
  apply Nat.le_of_mul_le_mul_right _ hR
  rw [Nat.add_mul, Nat.mul_assoc, Nat.mul_assoc]
  rw [show b * 268435456 * R = 268435456 * (b * R) by ac_rfl] at h
  omega
theorem mul_form {vx vy m e n f E : Nat} (h1 : vx = m * 2 ^ e) (h2 : vy = n * 2 ^ f) (hm : m < 16777216) (hn : n < 16777216) : ∃ b, val 52 b = vx * vy * 2 ^ E := by
  have hmn : m * n ≤ 16777216 * 16777216 := Nat.mul_le_mul (by omega) (by omega)
  obtain ⟨b, hb⟩ := rep_val 52 (e + f + E) (m * n) (by omega)
  refine ⟨b, ?_⟩
  rw [hb, h1, h2, Nat.pow_add, Nat.pow_add]
  ac_rfl
theorem mul_aux {vx vy p a b c : Nat} (h : p + p = a + b) : vx * 2 ^ p * (vy * 2 ^ p) = vx * vy * 2 ^ a * 2 ^ b := by
  have : 2 ^ p * 2 ^ p = 2 ^ a * 2 ^ b := by rw [← Nat.pow_add, ← Nat.pow_add, h]
  calc vx * 2 ^ p * (vy * 2 ^ p) = vx * vy * (2 ^ p * 2 ^ p) := by ac_rfl
    _ = vx * vy * (2 ^ a * 2 ^ b) := by rw [this]
    _ = vx * vy * 2 ^ a * 2 ^ b := by ac_rfl
theorem mul_lt_pow {vx vy a : Nat} (h1 : vx < 2 ^ a) (h2 : vy < 2 ^ a) : vx * vy < 2 ^ (a + a) := by
  rw [Nat.pow_add]
  exact Nat.lt_of_le_of_lt (Nat.mul_le_mul_left _ (Nat.le_of_lt h2)) (Nat.mul_lt_mul_of_pos_right h1 (two_pow_pos a))
theorem mul32_fin {x y : Nat} (a : Bool) (fx : fin32 x = true) (fy : fin32 y = true) : narrow (rd64 a (val64 (widen x) * val64 (widen y)) (2 ^ 1074)) = rd32 a (val32 x * val32 y) (2 ^ 149) := by
  obtain ⟨m, e, h1, hm, _⟩ := val32_form x
  obtain ⟨n, f, h2, hn, _⟩ := val32_form y
  obtain ⟨b, hb⟩ := mul_form (E := 776) h1 h2 hm hn
  have hlt := rung_lt_inf (e := 776) hb (mul_lt_pow (vx := val32 x) (vy := val32 y) val32_lt val32_lt) (by omega)
  have e1 : val64 (widen x) * val64 (widen y) = val 52 b * 2 ^ 1074 := by
    rw [(widen_fin fx).2.2, (widen_fin fy).2.2, hb]
    exact mul_aux (c := 0) (p := 925) (a := 776) (b := 1074) rfl
  rw [e1]
  have hr := rn_of_val (F := 52) (A := val 52 b * 2 ^ 1074) (B := 2 ^ 1074) (b := b) (two_pow_pos 1074)
  generalize 2 ^ 1074 = p at *
  have hr := hr rfl
  rw [narrow_rd (by rw [hr]; exact hlt), hr, hb]
  exact rd_congr32 a (two_pow_pos 925) (two_pow_pos 149) (mul_cat (n := val32 x * val32 y) (a := 776) (b := 149) (c := 925) rfl).symm
theorem mul32_eq (x y : Nat) : narrow (mul64 (widen x) (widen y)) = mul32 x y := by
  cases nx : isNaN32 x
  · cases ny : isNaN32 y
    · unfold mul64 mul32
      rw [widen_isNaN x, widen_isNaN y, widen_isInf, widen_isInf, widen_isZero, widen_isZero, widen_neg nx, widen_neg ny, nx, ny]
      split
      · exact nq_narrow
      · rename_i hc
        split
        · exact inf_narrow _
        · rename_i hi
          have ix : isInf32 x = false := by cases h : isInf32 x; rfl; rw [h] at hi; simp at hi
          have iy : isInf32 y = false := by cases h : isInf32 y; rfl; rw [h] at hi; simp at hi
          exact mul32_fin _ (fin_of32 nx ix) (fin_of32 ny iy)
    · rw [mul_comm64, mul_nl64 (by rw [widen_isNaN]; exact ny), mul_comm32, mul_nl32 ny]; exact nq_narrow
  · rw [mul_nl64 (by rw [widen_isNaN]; exact nx), mul_nl32 nx]; exact nq_narrow

-- quotients
theorem dr_div_H {vx vy mx ex my ey n k m Q q P T : Nat} (hx : vx = mx * 2 ^ ex) (hy : vy = my * 2 ^ ey) (hmx : mx < 16777216) (hmy : 0 < my) (hmy2 : my < 16777216) (hQ : Q = 268435456 * q) (hq : 0 < q) (hP : 0 < P) (hT : T = q * 2 ^ 178)
    (hm : val 52 m = (2 * n + 1) * (2 ^ k * Q)) (g1 : 2 * (vx * P * T) ≤ 2 * (val 52 m * (vy * P)) + 2 ^ k * q * (vy * P)) (g2 : 2 * (val 52 m * (vy * P)) ≤ 2 * (vx * P * T) + 2 ^ k * q * (vy * P)) :
    vx * P * T = val 52 m * (vy * P) := by
  have hqP : 0 < q * P := Nat.mul_pos hq hP
  -- in units of q P
  have a : vx * P * T = mx * 2 ^ (ex + 178) * (q * P) := by rw [hx, hT, Nat.pow_add]; ac_rfl
  have b : val 52 m * (vy * P) = (2 * n + 1) * my * 2 ^ (ey + k) * 268435456 * (q * P) := by rw [hm, hy, hQ, Nat.pow_add]; ac_rfl
  have c : 2 ^ k * q * (vy * P) = my * 2 ^ (ey + k) * (q * P) := by rw [hy, Nat.pow_add]; ac_rfl
  rw [a, b, c] at g1 g2
  have i1 := scale_le1 hqP g1
  have i2 := scale_le2 hqP g2
  have e3 : mx * 2 ^ (ex + 178) = mx * 2 ^ (ex + 150) * 268435456 := by rw [show (268435456 : Nat) = 2 ^ 28 from rfl, Nat.mul_assoc, ← Nat.pow_add]
  have := dr_div_core (m := mx) (u := ex + 150) (my := my) (n := n) (v := ey + k) hmx hmy hmy2 (by omega) (by omega)
  rw [a, b, ← this, e3]
theorem div_lt_aux {vx vy P T : Nat} (hvy : 0 < vy) : vx * P * T ≤ vx * T * (vy * P) := by
  have : vx * P * T * 1 ≤ vx * P * T * vy := Nat.mul_le_mul_left _ hvy
  calc vx * P * T = vx * P * T * 1 := by rw [Nat.mul_one]
    _ ≤ vx * P * T * vy := this
    _ = vx * T * (vy * P) := by ac_rfl
theorem div_last {vx vy P a b c : Nat} (h : a + b = c) : vx * P * 2 ^ c * vy = vx * 2 ^ a * (vy * P * 2 ^ b) := by
  rw [← h, Nat.pow_add]; ac_rfl
theorem div32_fin {x y : Nat} (a : Bool) (fx : fin32 x = true) (fy : fin32 y = true) (hy : 0 < mag32 y) : narrow (rd64 a (val64 (widen x) * 2 ^ 1074) (val64 (widen y))) = rd32 a (val32 x * 2 ^ 149) (val32 y) := by
  obtain ⟨mx, ex, h1, hmx, _⟩ := val32_form x
  obtain ⟨my, ey, h2, hmy2, _⟩ := val32_form y
  have hvy := val_pos32 hy
  have hmy : 0 < my := by
    rcases Nat.eq_zero_or_pos my with h | h
    · rw [h, Nat.zero_mul] at h2; omega
    · exact h
  rw [(widen_fin fx).2.2, (widen_fin fy).2.2]
  -- no overflow
  obtain ⟨b0, hb0⟩ := wid_rung x 1074
  have hl0 := rung_lt_inf (a := 24 + 255) (e := 1074) hb0 val32_lt (by omega)
  have hB : 0 < val32 y * 2 ^ 925 := Nat.mul_pos hvy (two_pow_pos 925)
  have hle : rn 52 (val32 x * 2 ^ 925 * 2 ^ 1074) (val32 y * 2 ^ 925) ≤ b0 := rn_le (by omega) hB (by rw [hb0]; exact div_lt_aux hvy)
  rw [narrow_rd (Nat.lt_of_le_of_lt hle hl0)]
  have hd := dr (A := val32 x * 2 ^ 925 * 2 ^ 1074) (B := val32 y * 2 ^ 925) (Q := 2 ^ (896 + 28)) hB (two_pow_pos (896 + 28)) (fun n k hn => dr_rep 896 n k hn) (fun n k m hn hk hm hr => by
    obtain ⟨g1, g2⟩ := dr_dist (e := 896) hB hn hm hr
    have eT := pow_cat (a := 896) (b := 178) (c := 1074) rfl
    have eQ := pow_cat (a := 28) (b := 896) (c := 896 + 28) rfl
    have ek := Nat.pow_add 2 k 896
    rw [ek] at g1 g2
    have hq := two_pow_pos 896
    have hP := two_pow_pos 925
    generalize 2 ^ 896 = q at *
    generalize 2 ^ 925 = P at *
    generalize 2 ^ 1074 = T at *
    generalize 2 ^ (896 + 28) = Q at *
    exact dr_div_H h1 h2 hmx hmy hmy2 eQ.symm hq hP eT.symm hm g1 g2)
  rw [← q925] at hd
  unfold rd32
  rw [hd]
  have hBB := Nat.mul_pos hB (two_pow_pos 925)
  have hl := div_last (vx := val32 x) (vy := val32 y) (P := 2 ^ 925) (a := 149) (b := 925) (c := 1074) rfl
  have := rn_congr (F := 23) (by omega) hBB hvy hl
  rw [this]
theorem div32_eq (x y : Nat) : narrow (div64 (widen x) (widen y)) = div32 x y := by
  cases nx : isNaN32 x
  · cases ny : isNaN32 y
    · unfold div64 div32
      rw [widen_isNaN x, widen_isNaN y, widen_isInf, widen_isInf, widen_isZero, widen_isZero, widen_neg nx, widen_neg ny, nx, ny]
      split
      · exact nq_narrow
      · rename_i hc
        split
        · exact inf_narrow _
        · rename_i hi
          have ix : isInf32 x = false := by cases h : isInf32 x; rfl; rw [h] at hi; simp at hi
          have zy : isZero32 y = false := by cases h : isZero32 y; rfl; rw [h] at hi; simp at hi
          split
          · exact zero_narrow _
          · rename_i iy
            have iy' : isInf32 y = false := by simpa using iy
            have hz := zero_not32.mp zy
            exact div32_fin _ (fin_of32 nx ix) (fin_of32 ny iy') (by omega)
    · have e1 : div64 (widen x) (widen y) = 9221120237041090560 := by unfold div64; rw [widen_isNaN y, ny]; exact if_pos (by simp)
      have e2 : div32 x y = 2143289344 := by unfold div32; rw [ny]; exact if_pos (by simp)
      rw [e1, e2]; exact nq_narrow
  · rw [div_nl64 (by rw [widen_isNaN]; exact nx), div_nl32 nx]; exact nq_narrow

-- sums
theorem natAbs_scale (s : Int) (p : Nat) : (s * p).natAbs = s.natAbs * p := by rw [Int.natAbs_mul, Int.natAbs_natCast]
theorem add32_fin {x y : Nat} (fx : fin32 x = true) (fy : fin32 y = true) : narrow (addf64 (widen x) (widen y)) = addf32 x y := by
  have hpp := two_pow_pos 925
  obtain ⟨p, hp⟩ : ∃ p, p = 2 ^ 925 := ⟨_, rfl⟩
  have sx := sv_widen fx hp
  have sy := sv_widen fy hp
  rw [← hp] at hpp
  have es : sv64 (widen x) + sv64 (widen y) = (sv32 x + sv32 y) * p := by rw [sx, sy, Int.add_mul]
  unfold addf64 addf32
  rw [es, (widen_fin fx).2.1, (widen_fin fy).2.1]
  by_cases h0 : sv32 x + sv32 y = 0
  · rw [h0, Int.zero_mul, if_pos rfl, if_pos rfl]
    cases neg32 x && neg32 y
    · exact zero_narrow false
    · exact zero_narrow true
  · have hpi : (0 : Int) < p := by omega
    have hne : (sv32 x + sv32 y) * (p : Int) ≠ 0 := fun h => by
      rcases Int.mul_eq_zero.mp h with h | h
      · exact h0 h
      · omega
    have hsg : decide ((sv32 x + sv32 y) * (p : Int) < 0) = decide (sv32 x + sv32 y < 0) := by
      rcases Int.lt_or_le (sv32 x + sv32 y) 0 with h | h
      · rw [decide_eq_true h, decide_eq_true (Int.mul_neg_of_neg_of_pos h hpi)]
      · have := Int.mul_nonneg h (show (0 : Int) ≤ p by omega)
        rw [decide_eq_false (show ¬ (sv32 x + sv32 y) * (p : Int) < 0 by omega), decide_eq_false (show ¬ sv32 x + sv32 y < 0 by omega)]
    rw [if_neg hne, if_neg h0, hsg, natAbs_scale]
    -- no overflow
    obtain ⟨L, hL⟩ : ∃ L : Nat, L = 24 + 255 + 1 := ⟨_, rfl⟩
    have hS : (sv32 x + sv32 y).natAbs < 2 ^ L := by
      have a := @val32_lt x
      have b := @val32_lt y
      have c := pow_succ2 (24 + 255)
      have d : (sv32 x + sv32 y).natAbs ≤ val32 x + val32 y := by
        rw [sv_sk32, sv_sk32]; unfold sk
        cases neg32 x <;> cases neg32 y <;> simp only [Bool.false_eq_true, if_false, if_true] <;> omega
      rw [hL, c]
      generalize 2 ^ (24 + 255) = z at *
      omega
    obtain ⟨b0, hb0⟩ := rep_val 52 (L + 925) 1 (by omega)
    have hl0 := rung_lt_inf (a := 1) (e := L + 925) hb0 (by omega) (by omega)
    have hle : rn 52 ((sv32 x + sv32 y).natAbs * p) 1 ≤ b0 := by
      refine rn_le (by omega) (by omega) ?_
      rw [hb0, hp, Nat.pow_add 2 L 925, Nat.one_mul, Nat.mul_one]
      exact Nat.mul_le_mul_right _ (Nat.le_of_lt hS)
    rw [narrow_rd (Nat.lt_of_le_of_lt hle hl0)]
    have hd := dr (A := (sv32 x + sv32 y).natAbs * p) (B := 1) (Q := 2 ^ (896 + 28)) (by omega) (two_pow_pos (896 + 28)) (fun n k hn => dr_rep 896 n k hn) (fun n k m hn hk hm hr => by
      obtain ⟨g1, g2⟩ := dr_dist (e := 896) (by omega) hn hm hr
      have eQ := pow_cat (a := 28) (b := 896) (c := 896 + 28) rfl
      have ek := Nat.pow_add 2 k 896
      have q9 := q925
      rw [ek] at g1 g2
      rw [← hp] at q9
      have hq := two_pow_pos 896
      generalize 2 ^ 896 = q at *
      generalize 2 ^ (896 + 28) = Q at *
      rw [q9] at g1 g2 ⊢
      exact dr_add_H eQ.symm hq hk hm g1 g2)
    rw [← q925, ← hp] at hd
    unfold rd32
    rw [← hp, hd]
    have := rn_congr (F := 23) (by omega) (A := (sv32 x + sv32 y).natAbs * p) (B := 1 * p) (A' := (sv32 x + sv32 y).natAbs) (B' := 1) (by omega) (by omega) (by rw [Nat.one_mul, Nat.mul_one])
    rw [this]
theorem add32_eq {x y : Nat} (hx : x < 4294967296) (hy : y < 4294967296) : narrow (add64 (widen x) (widen y)) = add32 x y := by
  cases nx : isNaN32 x
  · cases ny : isNaN32 y
    · have nx' : isNaN64 (widen x) = false := by rw [widen_isNaN]; exact nx
      have ny' : isNaN64 (widen y) = false := by rw [widen_isNaN]; exact ny
      cases ix : isInf32 x
      · have ix' : isInf64 (widen x) = false := by rw [widen_isInf]; exact ix
        cases iy : isInf32 y
        · have iy' : isInf64 (widen y) = false := by rw [widen_isInf]; exact iy
          rw [add_fin64 nx' ix' ny' iy', add_fin32 nx ix ny iy]
          exact add32_fin (fin_of32 nx ix) (fin_of32 ny iy)
        · have iy' : isInf64 (widen y) = true := by rw [widen_isInf]; exact iy
          rw [add_ir64 nx' ny' iy' (.inl ix'), add_ir32 nx ny iy (.inl ix), widen_inf iy, inf_narrow]
          exact sgn_inf32 hy iy
      · have ix' : isInf64 (widen x) = true := by rw [widen_isInf]; exact ix
        cases iy : isInf32 y
        · have iy' : isInf64 (widen y) = false := by rw [widen_isInf]; exact iy
          rw [add_il64 nx' ny' ix' (.inl iy'), add_il32 nx ny ix (.inl iy), widen_inf ix, inf_narrow]
          exact sgn_inf32 hx ix
        · have iy' : isInf64 (widen y) = true := by rw [widen_isInf]; exact iy
          by_cases hxy : x = y
          · subst hxy
            rw [add_il64 nx' ny' ix' (.inr rfl), add_il32 nx ny ix (.inr rfl), widen_inf ix, inf_narrow]
            exact sgn_inf32 hx ix
          · have hne : widen x ≠ widen y := by
              intro h
              have h1 := widen_neg nx
              have h2 := widen_neg ny
              rw [h, h2] at h1
              exact hxy (bits_eq32 hx hy h1.symm (by rw [inf_iff32.mp ix, inf_iff32.mp iy]))
            rw [add_ii64 ix' iy' hne, add_ii32 ix iy hxy]; exact nq_narrow
    · rw [add_nr64 (by rw [widen_isNaN]; exact ny), add_nr32 ny]; exact nq_narrow
  · rw [add_nl64 (by rw [widen_isNaN]; exact nx), add_nl32 nx]; exact nq_narrow
end Go.Proofs.Ytpjanmahbimhkaa.SF
