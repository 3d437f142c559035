/-
  Plain mathematics: what is widened; sums, products and quotients of 32 bits by way of 64 bits.
-/
import Derived.Test.YtpjanmahbimhkaaDR
namespace Go.Proofs.Ytpjanmahbimhkaa.SF
open Go.RowKit
set_option linter.unusedVariables false

theorem val32_form (x : Nat) : ∃ m e, val32 x = m * 2 ^ e ∧ m < 16777216 ∧ e < 255 := ⟨sm32 x, se32 x, val_sm32 x, sm_lt32 x, se_lt32 x⟩
theorem mul_pow_bd {m e a b : Nat} (hm : m < 2 ^ a) (he : e ≤ b) : m * 2 ^ e < 2 ^ (a + b) := by
  rw [Nat.pow_add]
  exact Nat.lt_of_lt_of_le (Nat.mul_lt_mul_of_pos_right hm (two_pow_pos e)) (Nat.mul_le_mul_left _ (Nat.pow_le_pow_right (by omega) he))
theorem val32_lt {x : Nat} : val32 x < 2 ^ (24 + 255) := by
  obtain ⟨m, e, h, hm, he⟩ := val32_form x
  rw [h]
  exact mul_pow_bd (a := 24) (b := 255) hm (by omega)
/-- Q = 2^924: 2 Q units of 64 bits are one of 32 bits -/
theorem wid_rung (x : Nat) (e : Nat) : ∃ b, val 52 b = val32 x * 2 ^ e := by
  obtain ⟨m, k, h, hm, hk⟩ := val32_form x
  obtain ⟨b, hb⟩ := rep_val 52 (k + e) m (by omega)
  exact ⟨b, by rw [hb, h, Nat.pow_add, Nat.mul_assoc]⟩
theorem rung_lt_inf {b v e a : Nat} (h : val 52 b = v * 2 ^ e) (hv : v < 2 ^ a) (he : a + e ≤ 52 + 2046) : b < 9218868437227405312 := by
  rcases Nat.lt_or_ge b 9218868437227405312 with h1 | h1
  · exact h1
  · exfalso
    have h2 := val_le 52 h1
    rw [inf_val64, h] at h2
    have h4 : v * 2 ^ e < 2 ^ a * 2 ^ e := Nat.mul_lt_mul_of_pos_right hv (two_pow_pos e)
    rw [← Nat.pow_add] at h4
    have h6 := Nat.pow_le_pow_right (n := 2) (by omega) he
    generalize 2 ^ (52 + 2046) = z at *
    omega
theorem widen_fin {x : Nat} (h : fin32 x = true) : fin64 (widen x) = true ∧ neg64 (widen x) = neg32 x ∧ val64 (widen x) = val32 x * 2 ^ 925 := by
  obtain ⟨h1, h2⟩ := fin_nan32 h
  have e : widen x = rd64 (neg32 x) (val32 x * 2 ^ 925) 1 := by unfold widen; rw [h1, h2]; simp only [Bool.false_eq_true, if_false]
  obtain ⟨b, hb⟩ := wid_rung x 925
  have hlt := rung_lt_inf (a := 24 + 255) (e := 925) hb val32_lt (by omega)
  generalize 2 ^ 925 = p at *
  have hr := rd_val64 (neg32 x) (A := val32 x * p) (B := 1) (b := b) (by omega) (by rw [hb, Nat.mul_one]) (by omega)
  rw [e, hr]
  refine ⟨fin_iff64.mpr ?_, neg_sgn64 _ (by omega), ?_⟩
  · rw [mag_sgn64 _ (by omega)]; exact hlt
  · unfold val64; rw [mag_sgn64 _ (by omega)]; exact hb
theorem widen_nan {x : Nat} (h : isNaN32 x = true) : widen x = 9221120237041090560 := by unfold widen; rw [h]; rfl
theorem widen_inf {x : Nat} (h : isInf32 x = true) : widen x = sgn64 (neg32 x) 9218868437227405312 := by
  have hn : isNaN32 x = false := nan_not32.mpr (by rw [inf_iff32.mp h]; omega)
  unfold widen; rw [hn, h]; rfl
theorem narrow_nan {x : Nat} (h : isNaN64 x = true) : narrow x = 2143289344 := by unfold narrow; rw [h]; rfl
theorem narrow_inf {x : Nat} (h : isInf64 x = true) : narrow x = sgn32 (neg64 x) 2139095040 := by
  have hn : isNaN64 x = false := nan_not64.mpr (by rw [inf_iff64.mp h]; omega)
  unfold narrow; rw [hn, h]; rfl
theorem narrow_fin {x : Nat} (h : fin64 x = true) : narrow x = rd32 (neg64 x) (val64 x) (2 ^ 925) := by
  obtain ⟨h1, h2⟩ := fin_nan64 h
  unfold narrow; rw [h1, h2]; simp only [Bool.false_eq_true, if_false]
theorem widen_isNaN (x : Nat) : isNaN64 (widen x) = isNaN32 x := by
  cases h : isNaN32 x
  · cases h2 : isInf32 x
    · exact (fin_nan64 (widen_fin (fin_of32 h h2)).1).1
    · rw [widen_inf h2]; cases neg32 x <;> decide
  · rw [widen_nan h]; decide
theorem widen_isInf (x : Nat) : isInf64 (widen x) = isInf32 x := by
  cases h2 : isInf32 x
  · cases h : isNaN32 x
    · exact (fin_nan64 (widen_fin (fin_of32 h h2)).1).2
    · rw [widen_nan h]; decide
  · rw [widen_inf h2]; cases neg32 x <;> decide
theorem widen_neg {x : Nat} (h : isNaN32 x = false) : neg64 (widen x) = neg32 x := by
  cases h2 : isInf32 x
  · exact (widen_fin (fin_of32 h h2)).2.1
  · rw [widen_inf h2]; cases neg32 x <;> decide
theorem widen_isZero (x : Nat) : isZero64 (widen x) = isZero32 x := by
  cases h : isNaN32 x
  · cases h2 : isInf32 x
    · have hv := (widen_fin (fin_of32 h h2)).2.2
      have hp := two_pow_pos 925
      generalize 2 ^ 925 = p at *
      unfold isZero64 isZero32
      rw [Bool.eq_iff_iff]
      simp only [decide_eq_true_eq]
      have a := @val_eq_zero 52 (mag64 (widen x))
      have b := @val_eq_zero 23 (mag32 x)
      have e : val 52 (mag64 (widen x)) = val 23 (mag32 x) * p := hv
      rw [← a, ← b, e]
      constructor
      · intro h
        rcases Nat.mul_eq_zero.mp h with h | h
        · exact h
        · omega
      · intro h; rw [h, Nat.zero_mul]
    · have hm := inf_iff32.mp h2
      rw [widen_inf h2]
      have : isZero32 x = false := zero_not32.mpr (by omega)
      rw [this]
      cases neg32 x <;> decide
  · have hm := nan_iff32.mp h
    have : isZero32 x = false := zero_not32.mpr (by omega)
    rw [this, widen_nan h]; decide

-- numbers: the hearts for quotients and sums
theorem dr_div_core {m u my n v : Nat} (hm : m < 16777216) (hmy : 0 < my) (hmy2 : my < 16777216) (h1 : m * 2 ^ u * 536870912 ≤ (2 * n + 1) * my * 2 ^ v * 536870912 + my * 2 ^ v) (h2 : (2 * n + 1) * my * 2 ^ v * 536870912 ≤ m * 2 ^ u * 536870912 + my * 2 ^ v) : m * 2 ^ u = (2 * n + 1) * my * 2 ^ v := by
  rcases Nat.lt_or_ge u v with h | h
  · obtain ⟨d, rfl⟩ : ∃ d, v = u + 1 + d := ⟨v - u - 1, by omega⟩
    have hp := two_pow_pos u
    have hd := two_pow_pos d
    have e : 2 ^ (u + 1 + d) = 2 ^ d * 2 * 2 ^ u := by rw [Nat.pow_add, Nat.pow_add, Nat.pow_one]; ac_rfl
    rw [e] at h1 h2 ⊢
    obtain ⟨q, hq⟩ : ∃ q, q = my * (2 ^ d * 2) := ⟨_, rfl⟩
    have e1 : (2 * n + 1) * my * (2 ^ d * 2 * 2 ^ u) = (2 * n + 1) * q * 2 ^ u := by rw [hq]; ac_rfl
    have e2 : my * (2 ^ d * 2 * 2 ^ u) = q * 2 ^ u := by rw [hq]; ac_rfl
    rw [e1, e2] at h1 h2
    rw [e1]
    have g1 : m * 536870912 ≤ (2 * n + 1) * q * 536870912 + q := by
      have : (m * 536870912) * 2 ^ u ≤ ((2 * n + 1) * q * 536870912 + q) * 2 ^ u := by
        rw [Nat.add_mul ((2 * n + 1) * q * 536870912) q]
        have a : m * 536870912 * 2 ^ u = m * 2 ^ u * 536870912 := by ac_rfl
        have b : (2 * n + 1) * q * 536870912 * 2 ^ u = (2 * n + 1) * q * 2 ^ u * 536870912 := by ac_rfl
        omega
      exact Nat.le_of_mul_le_mul_right this hp
    have g2 : (2 * n + 1) * q * 536870912 ≤ m * 536870912 + q := by
      have : ((2 * n + 1) * q * 536870912) * 2 ^ u ≤ (m * 536870912 + q) * 2 ^ u := by
        rw [Nat.add_mul (m * 536870912) q]
        have a : m * 536870912 * 2 ^ u = m * 2 ^ u * 536870912 := by ac_rfl
        have b : (2 * n + 1) * q * 536870912 * 2 ^ u = (2 * n + 1) * q * 2 ^ u * 536870912 := by ac_rfl
        omega
      exact Nat.le_of_mul_le_mul_right this hp
    have hqn : q ≤ (2 * n + 1) * q := Nat.le_mul_of_pos_left _ (by omega)
    have : m = (2 * n + 1) * q := by omega
    rw [this]
  · obtain ⟨d, rfl⟩ : ∃ d, u = v + d := ⟨u - v, by omega⟩
    have hp := two_pow_pos v
    have e : m * 2 ^ (v + d) = m * 2 ^ d * 2 ^ v := by rw [Nat.pow_add]; ac_rfl
    rw [e] at h1 h2 ⊢
    generalize m * 2 ^ d = M at *
    generalize (2 * n + 1) * my = N at *
    have g1 : M * 536870912 ≤ N * 536870912 + my := by
      have : (M * 536870912) * 2 ^ v ≤ (N * 536870912 + my) * 2 ^ v := by
        rw [Nat.add_mul]
        have a : M * 536870912 * 2 ^ v = M * 2 ^ v * 536870912 := by ac_rfl
        have b : N * 536870912 * 2 ^ v = N * 2 ^ v * 536870912 := by ac_rfl
        omega
      exact Nat.le_of_mul_le_mul_right this hp
    have g2 : N * 536870912 ≤ M * 536870912 + my := by
      have : (N * 536870912) * 2 ^ v ≤ (M * 536870912 + my) * 2 ^ v := by
        rw [Nat.add_mul]
        have a : M * 536870912 * 2 ^ v = M * 2 ^ v * 536870912 := by ac_rfl
        have b : N * 536870912 * 2 ^ v = N * 2 ^ v * 536870912 := by ac_rfl
        omega
      exact Nat.le_of_mul_le_mul_right this hp
    have : M = N := by omega
    rw [this]

theorem dr_add_pos {X Y : Int} {ex ey : Nat} {c d : Int} (hX : X = c * 2 ^ ex) (hY : Y = d * 2 ^ ey) (ha : c.natAbs < 16777216) (hb : d.natAbs < 16777216) {n j : Nat} (hn : 8388608 ≤ n) (h0 : 0 ≤ X + Y)
    (h : 536870912 * (X + Y - (2 * n + 1) * 2 ^ j).natAbs ≤ 2 ^ j) : X + Y = (2 * n + 1) * 2 ^ j := by
  rcases Nat.le_total Y.natAbs X.natAbs with hl | hl
  · exact dr_add_core (a := 0) (b := 0) hX hY ha hb hn h0 hl h
  · rw [Int.add_comm] at h h0 ⊢
    exact dr_add_core (a := 0) (b := 0) hY hX hb ha hn h0 hl h
theorem dr_add_any {X Y : Int} {ex ey : Nat} {c d : Int} (hX : X = c * 2 ^ ex) (hY : Y = d * 2 ^ ey) (ha : c.natAbs < 16777216) (hb : d.natAbs < 16777216) {n j : Nat} (hn : 8388608 ≤ n)
    (h1 : 536870912 * (X + Y).natAbs ≤ 536870912 * ((2 * n + 1) * 2 ^ j) + 2 ^ j) (h2 : 536870912 * ((2 * n + 1) * 2 ^ j) ≤ 536870912 * (X + Y).natAbs + 2 ^ j) : (X + Y).natAbs = (2 * n + 1) * 2 ^ j := by
  have cj : ((2 ^ j : Nat) : Int) = 2 ^ j := by simp
  have cm : (((2 * n + 1) * 2 ^ j : Nat) : Int) = (2 * (n : Int) + 1) * 2 ^ j := by rw [Int.natCast_mul, cj]; simp
  rcases Int.lt_or_le (X + Y) 0 with h0 | h0
  · have e : -X + -Y = (2 * (n : Int) + 1) * 2 ^ j := by
      refine dr_add_pos (c := -c) (d := -d) (by rw [hX, Int.neg_mul]) (by rw [hY, Int.neg_mul]) (by omega) (by omega) hn (by omega) ?_
      rw [← cm]
      generalize (2 * n + 1) * 2 ^ j = M at *
      omega
    rw [← cm] at e
    omega
  · have e : X + Y = (2 * (n : Int) + 1) * 2 ^ j := by
      refine dr_add_pos hX hY ha hb hn h0 ?_
      rw [← cm]
      generalize (2 * n + 1) * 2 ^ j = M at *
      omega
    rw [← cm] at e
    omega
theorem sv32_form (x : Nat) : ∃ (c : Int) (e : Nat), sv32 x = c * 2 ^ e ∧ c.natAbs < 16777216 := by
  obtain ⟨m, e, h, hm, he⟩ := val32_form x
  have ce : ((2 ^ e : Nat) : Int) = 2 ^ e := by simp
  cases hn : neg32 x
  · refine ⟨m, e, ?_, by omega⟩
    rw [sv_sk32, hn, h, ← ce]; simp [sk]
  · refine ⟨-m, e, ?_, by omega⟩
    rw [sv_sk32, hn, h, ← ce]; simp [sk, Int.neg_mul]
theorem sv_widen {x : Nat} (h : fin32 x = true) {p : Nat} (hp : p = 2 ^ 925) : sv64 (widen x) = sv32 x * p := by
  obtain ⟨h1, h2, h3⟩ := widen_fin h
  rw [← hp] at h3
  rw [sv_sk64, sv_sk32, h2, h3]
  cases neg32 x <;> simp [sk, Int.neg_mul]
/-- numbers that are rounded to a midpoint are this midpoint: sums -/
theorem dr_add_H {x y Q q : Nat} (hQ : Q = 268435456 * q) (hq : 0 < q) {n k m : Nat} (hk : k = 0 ∨ 8388608 ≤ n) (hm : val 52 m = (2 * n + 1) * (2 ^ k * Q))
    (g1 : 2 * ((sv32 x + sv32 y).natAbs * (2 * Q)) ≤ 2 * (val 52 m * 1) + 2 ^ k * q * 1) (g2 : 2 * (val 52 m * 1) ≤ 2 * ((sv32 x + sv32 y).natAbs * (2 * Q)) + 2 ^ k * q * 1) :
    (sv32 x + sv32 y).natAbs * (2 * Q) = val 52 m * 1 := by
  have key : 2 * (sv32 x + sv32 y).natAbs = (2 * n + 1) * 2 ^ k := by
    have i1 : 1073741824 * (sv32 x + sv32 y).natAbs ≤ 536870912 * ((2 * n + 1) * 2 ^ k) + 2 ^ k := by
      apply Nat.le_of_mul_le_mul_right _ hq
      rw [hm, hQ] at g1
      have a : 1073741824 * (sv32 x + sv32 y).natAbs * q = 2 * ((sv32 x + sv32 y).natAbs * (2 * (268435456 * q))) := by
        generalize (sv32 x + sv32 y).natAbs = S
        rw [show 2 * (268435456 * q) = 536870912 * q by omega, ← Nat.mul_assoc S, Nat.mul_comm S]
        rw [Nat.mul_assoc, Nat.mul_assoc]
        generalize S * q = z
        omega
      have b : (536870912 * ((2 * n + 1) * 2 ^ k) + 2 ^ k) * q = 2 * ((2 * n + 1) * (2 ^ k * (268435456 * q)) * 1) + 2 ^ k * q * 1 := by
        rw [Nat.add_mul, Nat.mul_one, Nat.mul_one]
        have : 536870912 * ((2 * n + 1) * 2 ^ k) * q = 2 * ((2 * n + 1) * (2 ^ k * (268435456 * q))) := by
          generalize 2 ^ k = P
          rw [show (2 * n + 1) * (P * (268435456 * q)) = 268435456 * ((2 * n + 1) * P * q) by ac_rfl, Nat.mul_assoc 536870912]
          generalize (2 * n + 1) * P * q = z
          omega
        omega
      omega
    have i2 : 536870912 * ((2 * n + 1) * 2 ^ k) ≤ 1073741824 * (sv32 x + sv32 y).natAbs + 2 ^ k := by
      apply Nat.le_of_mul_le_mul_right _ hq
      rw [hm, hQ] at g2
      have a : (1073741824 * (sv32 x + sv32 y).natAbs + 2 ^ k) * q = 2 * ((sv32 x + sv32 y).natAbs * (2 * (268435456 * q))) + 2 ^ k * q := by
        generalize (sv32 x + sv32 y).natAbs = S
        rw [Nat.add_mul, show 2 * (268435456 * q) = 536870912 * q by omega, ← Nat.mul_assoc S, Nat.mul_comm S]
        rw [Nat.mul_assoc, Nat.mul_assoc]
        generalize S * q = z
        omega
      have b : 536870912 * ((2 * n + 1) * 2 ^ k) * q = 2 * ((2 * n + 1) * (2 ^ k * (268435456 * q))) := by
        generalize 2 ^ k = P
        rw [show (2 * n + 1) * (P * (268435456 * q)) = 268435456 * ((2 * n + 1) * P * q) by ac_rfl, Nat.mul_assoc 536870912]
        generalize (2 * n + 1) * P * q = z
        omega
      omega
    rcases Nat.eq_zero_or_pos k with h0 | h0
    · subst h0
      rw [Nat.pow_zero, Nat.mul_one] at i1 i2 ⊢
      omega
    · obtain ⟨j, rfl⟩ : ∃ j, k = j + 1 := ⟨k - 1, by omega⟩
      obtain ⟨c, ex, hX, hc⟩ := sv32_form x
      obtain ⟨d, ey, hY, hd⟩ := sv32_form y
      have e : (2 * n + 1) * 2 ^ (j + 1) = 2 * ((2 * n + 1) * 2 ^ j) := by rw [pow_succ2, Nat.mul_left_comm]
      have e2 := pow_succ2 j
      rw [e, e2] at i1 i2
      have := dr_add_any hX hY hc hd (n := n) (j := j) (by omega) (by omega) (by omega)
      rw [e, this]
  rw [hm, Nat.mul_one, ← Nat.mul_assoc (2 * n + 1), ← key]
  rw [Nat.mul_left_comm, ← Nat.mul_assoc]
end Go.Proofs.Ytpjanmahbimhkaa.SF
