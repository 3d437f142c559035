/-
  Plain mathematics for the walks through sums, products and quotients.
-/
import Derived.Test.YtpjanmahbimhkaaFun
namespace Go.Proofs.Ytpjanmahbimhkaa.SF
open Go.RowKit

theorem pow_cat {a b c : Nat} (h : a + b = c) : 2 ^ a * 2 ^ b = 2 ^ c := by rw [← Nat.pow_add, h]

theorem mul_cat {n a b c : Nat} (h : a + b = c) : n * 2 ^ c = n * 2 ^ a * 2 ^ b := by rw [Nat.mul_assoc, pow_cat h]

theorem mul_cat1 {n a b c : Nat} (h : a + b = c) : n * (1 * 2 ^ c) = n * 2 ^ a * 2 ^ b := by rw [Nat.one_mul, Nat.mul_assoc, pow_cat h]

theorem pow_eq3 {a b c d e f : Nat} (h : a + (b + c) = d + (e + f)) : 2 ^ a * (2 ^ b * 2 ^ c) = 2 ^ d * (2 ^ e * 2 ^ f) := by rw [← Nat.pow_add, ← Nat.pow_add, ← Nat.pow_add, ← Nat.pow_add, h]

theorem rep_div (P s t : Nat) (h : s ≤ t) : Rep (P / 2 ^ s) (2 ^ t * 1) (P % 2 ^ s ≠ 0) (P * 2 ^ (t - s)) := by
  have e : 2 ^ t = 2 ^ s * 2 ^ (t - s) := by rw [← Nat.pow_add]; congr 1; omega
  have hp := two_pow_pos s
  have hq := two_pow_pos (t - s)
  have hd := Nat.div_add_mod P (2 ^ s)
  have hm := Nat.mod_lt P hp
  generalize P / 2 ^ s = m at *
  generalize P % 2 ^ s = r at *
  generalize 2 ^ (t - s) = T at *
  generalize 2 ^ s = S at *
  have e2 : m * (S * T) = S * m * T := by ac_rfl
  have e3 : P * T = S * m * T + r * T := by rw [← hd, Nat.add_mul]
  refine ⟨fun h => ?_, fun h => ?_⟩
  · have : r = 0 := by omega
    rw [e, Nat.mul_one, e2, e3, this]; simp
  · rw [e, Nat.mul_one, e2, e3]
    have h1 : 0 < r * T := Nat.mul_pos (by omega) hq
    have h2 : r * T < S * T := Nat.mul_lt_mul_of_pos_right hm hq
    omega

theorem rd_zero64 (neg : Bool) {B : Nat} (hB : 0 < B) : rd64 neg 0 B = sgn64 neg 0 := by
  rw [rd_of64 neg (rnd_zero (by omega)) hB, Nat.zero_min]
/-- NaN, infinity, zero, or another number -/
theorem kinds64 (x : Nat) : isNaN64 x = true ∨ (isNaN64 x = false ∧ isInf64 x = true ∧ isZero64 x = false ∧ um64 x = 0 ∧ mag64 x = 9218868437227405312) ∨
    (isNaN64 x = false ∧ isInf64 x = false ∧ isZero64 x = true ∧ um64 x = 0 ∧ mag64 x = 0 ∧ ue64 x = 0) ∨
    (isNaN64 x = false ∧ isInf64 x = false ∧ isZero64 x = false ∧ 0 < mag64 x ∧ mag64 x < 9218868437227405312 ∧ 4503599627370496 ≤ um64 x ∧ um64 x < 9007199254740992 ∧ -1074 ≤ ue64 x ∧ ue64 x ≤ 1023 ∧ ∃ t : Nat, (t : Int) = ue64 x + 1074 ∧ um64 x * 2 ^ t = val64 x * 4503599627370496) := by
  unfold isNaN64 isInf64 isZero64
  rcases Nat.lt_or_ge 9218868437227405312 (mag64 x) with h | h
  · exact .inl (decide_eq_true h)
  refine .inr ?_
  rcases Nat.lt_or_ge (mag64 x) 9218868437227405312 with h1 | h1
  · refine .inr ?_
    rcases Nat.eq_zero_or_pos (mag64 x) with h2 | h2
    · refine .inl ⟨decide_eq_false (by omega), decide_eq_false (by omega), decide_eq_true h2, ?_, h2, ?_⟩
      · unfold um64; rw [h2]; exact um_zero _ _
      · unfold ue64; rw [h2]; exact ue_zero _ _ _
    · obtain ⟨g1, g2, t, g3, g4⟩ := um_fin (F := 52) (T := 2047) (eb := 1023) h2 (by omega)
      refine .inr ⟨decide_eq_false (by omega), decide_eq_false (by omega), decide_eq_false (by omega), h2, h1, g1, g2, ?_, ?_, t, ?_, g4⟩
      · show -1074 ≤ ue 52 2047 1023 (mag64 x)
        omega
      · show ue 52 2047 1023 (mag64 x) ≤ 1023
        unfold ue
        have : mag64 x / 2 ^ 52 < 2047 := by omega
        split
        · split <;> omega
        · rw [if_neg (by omega)]
          omega
      · show (t : Int) = ue 52 2047 1023 (mag64 x) + 1074
        omega
  · refine .inl ⟨decide_eq_false (by omega), decide_eq_true (by omega), decide_eq_false (by omega), ?_, by omega⟩
    have h2 : mag64 x = 9218868437227405312 := by omega
    unfold um64
    rw [h2]
    unfold um
    decide
theorem neg_sb64 {x : Nat} (hx : x < 18446744073709551616) : neg64 x = decide (sb64 x ≠ 0) := by
  have h := sb_cases64 hx
  have h2 := sb_add_mag64 x
  have h3 := mag_lt64 x
  unfold neg64
  rw [Bool.eq_iff_iff]
  simp only [decide_eq_true_eq]
  rcases h with h | h <;> omega
theorem sgn_mag64 {x : Nat} (hx : x < 18446744073709551616) : sgn64 (neg64 x) (mag64 x) = x := by
  rw [neg_sb64 hx]
  have h := sb_cases64 hx
  have h2 := sb_add_mag64 x
  unfold sgn64
  rcases h with h | h <;> simp [h] <;> omega
theorem xor_flip64 {x y : Nat} (hx : x < 18446744073709551616) (hy : y < 18446744073709551616) : bits .xor .u64 (x : Int) (sb64 y : Int) = ((sgn64 (neg64 x != neg64 y) (mag64 x) : Nat) : Int) := by
  have e1 := u64_xor_nat x (sb64 y) hx (by have := sb_cases64 hy; rcases this with h | h <;> omega)
  rw [e1]
  have h1 := sb_add_mag64 x
  have h3 := mag_lt64 x
  have h4 := mag_of64 (sb_cases64 hx) h3
  congr 1
  rw [neg_sb64 hx, neg_sb64 hy]
  have key : ∀ m : Nat, m < 9223372036854775808 → (9223372036854775808 + m) ^^^ 9223372036854775808 = m := by
    intro m hm
    rw [show 9223372036854775808 + m = 9223372036854775808 ^^^ m from (xor_disjoint 9223372036854775808 m 63 (by decide) hm).symm, Nat.xor_comm, ← Nat.xor_assoc, Nat.xor_self, Nat.zero_xor]
  have key2 : ∀ m : Nat, m < 9223372036854775808 → m ^^^ 9223372036854775808 = 9223372036854775808 + m := by
    intro m hm
    rw [Nat.xor_comm]; exact xor_disjoint 9223372036854775808 m 63 (by decide) hm
  unfold sgn64
  have cx := sb_cases64 hx
  have cy := sb_cases64 hy
  generalize mag64 x = m at *
  generalize sb64 x = s at *
  generalize sb64 y = t at *
  subst h1
  rcases cx with rfl | rfl <;> rcases cy with rfl | rfl
  · simp
  · rw [Nat.zero_add, key2 m h3]; simp
  · rw [Nat.xor_zero]; simp
  · rw [key m h3]; simp
theorem rd_zero32 (neg : Bool) {B : Nat} (hB : 0 < B) : rd32 neg 0 B = sgn32 neg 0 := by
  rw [rd_of32 neg (rnd_zero (by omega)) hB, Nat.zero_min]
/-- NaN, infinity, zero, or another number -/
theorem kinds32 (x : Nat) : isNaN32 x = true ∨ (isNaN32 x = false ∧ isInf32 x = true ∧ isZero32 x = false ∧ um32 x = 0 ∧ mag32 x = 2139095040) ∨
    (isNaN32 x = false ∧ isInf32 x = false ∧ isZero32 x = true ∧ um32 x = 0 ∧ mag32 x = 0 ∧ ue32 x = 0) ∨
    (isNaN32 x = false ∧ isInf32 x = false ∧ isZero32 x = false ∧ 0 < mag32 x ∧ mag32 x < 2139095040 ∧ 8388608 ≤ um32 x ∧ um32 x < 16777216 ∧ -149 ≤ ue32 x ∧ ue32 x ≤ 127 ∧ ∃ t : Nat, (t : Int) = ue32 x + 149 ∧ um32 x * 2 ^ t = val32 x * 8388608) := by
  unfold isNaN32 isInf32 isZero32
  rcases Nat.lt_or_ge 2139095040 (mag32 x) with h | h
  · exact .inl (decide_eq_true h)
  refine .inr ?_
  rcases Nat.lt_or_ge (mag32 x) 2139095040 with h1 | h1
  · refine .inr ?_
    rcases Nat.eq_zero_or_pos (mag32 x) with h2 | h2
    · refine .inl ⟨decide_eq_false (by omega), decide_eq_false (by omega), decide_eq_true h2, ?_, h2, ?_⟩
      · unfold um32; rw [h2]; exact um_zero _ _
      · unfold ue32; rw [h2]; exact ue_zero _ _ _
    · obtain ⟨g1, g2, t, g3, g4⟩ := um_fin (F := 23) (T := 255) (eb := 127) h2 (by omega)
      refine .inr ⟨decide_eq_false (by omega), decide_eq_false (by omega), decide_eq_false (by omega), h2, h1, g1, g2, ?_, ?_, t, ?_, g4⟩
      · show -149 ≤ ue 23 255 127 (mag32 x)
        omega
      · show ue 23 255 127 (mag32 x) ≤ 127
        unfold ue
        have : mag32 x / 2 ^ 23 < 255 := by omega
        split
        · split <;> omega
        · rw [if_neg (by omega)]
          omega
      · show (t : Int) = ue 23 255 127 (mag32 x) + 149
        omega
  · refine .inl ⟨decide_eq_false (by omega), decide_eq_true (by omega), decide_eq_false (by omega), ?_, by omega⟩
    have h2 : mag32 x = 2139095040 := by omega
    unfold um32
    rw [h2]
    unfold um
    decide
theorem neg_sb32 {x : Nat} (hx : x < 4294967296) : neg32 x = decide (sb32 x ≠ 0) := by
  have h := sb_cases32 hx
  have h2 := sb_add_mag32 x
  have h3 := mag_lt32 x
  unfold neg32
  rw [Bool.eq_iff_iff]
  simp only [decide_eq_true_eq]
  rcases h with h | h <;> omega
theorem sgn_mag32 {x : Nat} (hx : x < 4294967296) : sgn32 (neg32 x) (mag32 x) = x := by
  rw [neg_sb32 hx]
  have h := sb_cases32 hx
  have h2 := sb_add_mag32 x
  unfold sgn32
  rcases h with h | h <;> simp [h] <;> omega
theorem xor_flip32 {x y : Nat} (hx : x < 4294967296) (hy : y < 4294967296) : bits .xor .u32 (x : Int) (sb32 y : Int) = ((sgn32 (neg32 x != neg32 y) (mag32 x) : Nat) : Int) := by
  have e1 := u32_xor_nat x (sb32 y) hx (by have := sb_cases32 hy; rcases this with h | h <;> omega)
  rw [e1]
  have h1 := sb_add_mag32 x
  have h3 := mag_lt32 x
  have h4 := mag_of32 (sb_cases32 hx) h3
  congr 1
  rw [neg_sb32 hx, neg_sb32 hy]
  have key : ∀ m : Nat, m < 2147483648 → (2147483648 + m) ^^^ 2147483648 = m := by
    intro m hm
    rw [show 2147483648 + m = 2147483648 ^^^ m from (xor_disjoint 2147483648 m 31 (by decide) hm).symm, Nat.xor_comm, ← Nat.xor_assoc, Nat.xor_self, Nat.zero_xor]
  have key2 : ∀ m : Nat, m < 2147483648 → m ^^^ 2147483648 = 2147483648 + m := by
    intro m hm
    rw [Nat.xor_comm]; exact xor_disjoint 2147483648 m 31 (by decide) hm
  unfold sgn32
  have cx := sb_cases32 hx
  have cy := sb_cases32 hy
  generalize mag32 x = m at *
  generalize sb32 x = s at *
  generalize sb32 y = t at *
  subst h1
  rcases cx with rfl | rfl <;> rcases cy with rfl | rfl
  · simp
  · rw [Nat.zero_add, key2 m h3]; simp
  · rw [Nat.xor_zero]; simp
  · rw [key m h3]; simp
end Go.Proofs.Ytpjanmahbimhkaa.SF
