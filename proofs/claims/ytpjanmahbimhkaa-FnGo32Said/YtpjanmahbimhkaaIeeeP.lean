/-
  Plain mathematics: the model's own floats are the floats of these texts.
-/
import Derived.Test.YtpjanmahbimhkaaAlgB
import Ieee.Arith
namespace Go.Proofs.Ytpjanmahbimhkaa.SF
open Go.RowKit
set_option linter.unusedVariables false

theorem Near.scale {n C A : Nat} (P : Nat) (h : Near n C A) (hP : 0 < P) : Near n (C * P) (A * P) := by
  obtain ⟨h1, h2, h3, h4⟩ := h
  have e1 : 2 * (n * (C * P)) = 2 * (n * C) * P := by rw [← Nat.mul_assoc n, Nat.mul_assoc 2]
  have e2 : 2 * (A * P) + C * P = (2 * A + C) * P := by rw [Nat.add_mul, Nat.mul_assoc]
  have e3 : 2 * (n * (C * P)) + C * P = (2 * (n * C) + C) * P := by rw [e1, Nat.add_mul]
  have e4 : 2 * (A * P) = 2 * A * P := by rw [Nat.mul_assoc]
  refine ⟨?_, ?_, ?_, ?_⟩
  · rw [e1, e2]; exact Nat.mul_le_mul_right _ h1
  · rw [e1, e2]; intro e; exact h2 (Nat.eq_of_mul_eq_mul_right hP e)
  · rw [e3, e4]; exact Nat.mul_le_mul_right _ h3
  · rw [e3, e4]; intro e; exact h4 (Nat.eq_of_mul_eq_mul_right hP e)
/-- the model's way to a whole number -/
theorem cut_near (neg : Bool) (n d : Nat) : Near (Ieee.Toward.even.cut neg n d) (2 ^ d) n := by
  unfold Ieee.Toward.cut
  simp only [Nat.shiftLeft_eq, Nat.one_mul]
  have hl : n < 2 ^ (n.log2 + 1) := Nat.lt_log2_self
  rcases Nat.lt_or_ge (n.log2 + 2) d with h | h
  · rw [Nat.min_eq_right (Nat.le_of_lt h)]
    have h2 : 2 ^ (n.log2 + 2) = 2 * 2 ^ (n.log2 + 1) := pow_succ2 _
    have h3 := Nat.pow_le_pow_right (n := 2) (by omega) (Nat.le_of_lt h)
    have hlt : n < 2 ^ (n.log2 + 2) := by omega
    rw [Nat.div_eq_of_lt hlt, Nat.mod_eq_of_lt hlt]
    have e : (decide (2 ^ (n.log2 + 2) < 2 * n) || (2 ^ (n.log2 + 2) == 2 * n && 0 % 2 == 1)) = false := by
      rw [decide_eq_false (by omega)]; simp
    rw [e]
    exact ⟨by simp, by simp, by simp; omega, by simp⟩
  · rw [Nat.min_eq_left h]
    have hp := two_pow_pos d
    have hdm := Nat.div_add_mod n (2 ^ d)
    have hml := Nat.mod_lt n hp
    generalize 2 ^ d = C at *
    generalize n / C = q at *
    generalize n % C = r at *
    rw [Nat.mul_comm] at hdm
    by_cases h1 : C < 2 * r
    · rw [decide_eq_true h1]
      simp only [Bool.true_or, Bool.toNat_true]
      refine ⟨?_, ?_, ?_, ?_⟩ <;> rw [Nat.add_mul, Nat.one_mul] <;> omega
    · rw [decide_eq_false h1, Bool.false_or]
      by_cases h2 : C = 2 * r
      · by_cases h3 : q % 2 = 1
        · have e : (C == 2 * r && q % 2 == 1) = true := by simp [h2, h3]
          rw [e]
          simp only [Bool.toNat_true]
          refine ⟨?_, ?_, ?_, ?_⟩ <;> rw [Nat.add_mul, Nat.one_mul] <;> omega
        · have e : (C == 2 * r && q % 2 == 1) = false := by simp [h3]
          rw [e]
          simp only [Bool.toNat_false, Nat.add_zero]
          exact ⟨by omega, by omega, by omega, by omega⟩
      · have e : (C == 2 * r && q % 2 == 1) = false := by simp [h2]
        rw [e]
        simp only [Bool.toNat_false, Nat.add_zero]
        exact ⟨by omega, by omega, by omega, by omega⟩
theorem near_hi {n C A M : Nat} (h : Near n C A) (hC : 0 < C) (hA : A < M * C) : n ≤ M := by
  obtain ⟨h1, _, _, _⟩ := h
  rcases Nat.lt_or_ge M n with g | g
  · exfalso
    have : (M + 1) * C ≤ n * C := Nat.mul_le_mul_right _ g
    rw [Nat.add_mul, Nat.one_mul] at this
    omega
  · exact g
theorem near_lo {n C A M : Nat} (h : Near n C A) (hC : 0 < C) (hA : M * C ≤ A) : M ≤ n := by
  obtain ⟨_, _, h3, _⟩ := h
  rcases Nat.lt_or_ge n M with g | g
  · exfalso
    have : (n + 1) * C ≤ M * C := Nat.mul_le_mul_right _ g
    rw [Nat.add_mul, Nat.one_mul] at this
    omega
  · exact g
/-- The rung that the model rounds to: of mag times 2 to the power of E, in units of the smallest number -/
theorem nearest_rnd {F mag k : Nat} {E : Int} (hF : 1 ≤ F) (hm : mag ≠ 0) (hk : (k : Int) = max (E + mag.log2 - F) 0) (neg : Bool) :
    IsRnd F (mag * 2 ^ E.toNat) (2 ^ (-E).toNat) (k * 2 ^ F + Ieee.Toward.even.cut neg (mag <<< (E - k).toNat) ((k : Int) - E).toNat) := by
  have hl1 : mag < 2 ^ (mag.log2 + 1) := Nat.lt_log2_self
  have hl2 : 2 ^ mag.log2 ≤ mag := Nat.log2_self_le hm
  have hB := two_pow_pos (-E).toNat
  have hC : 0 < 2 ^ k * 2 ^ (-E).toNat := Nat.mul_pos (two_pow_pos k) hB
  have hn := cut_near neg (mag <<< (E - k).toNat) ((k : Int) - E).toNat
  generalize Ieee.Toward.even.cut neg (mag <<< (E - k).toNat) ((k : Int) - E).toNat = kept at *
  rw [Nat.shiftLeft_eq] at hn
  -- the same in the units of the smallest number
  have hnear : Near kept (2 ^ k * 2 ^ (-E).toNat) (mag * 2 ^ E.toNat) := by
    rcases Int.le_total (k : Int) E with g | g
    · have e1 : ((k : Int) - E).toNat = 0 := by omega
      have e2 : (-E).toNat = 0 := by omega
      have e3 : E.toNat = (E - k).toNat + k := by omega
      rw [e1, Nat.pow_zero] at hn
      have := hn.scale (2 ^ k) (two_pow_pos k)
      rw [e2, e3, Nat.pow_add, ← Nat.mul_assoc, Nat.pow_zero, Nat.mul_one]
      rwa [Nat.one_mul] at this
    · have e1 : (E - k).toNat = 0 := by omega
      rw [e1, Nat.pow_zero, Nat.mul_one] at hn
      have := hn.scale (2 ^ E.toNat) (two_pow_pos _)
      have e : 2 ^ k * 2 ^ (-E).toNat = 2 ^ ((k : Int) - E).toNat * 2 ^ E.toNat := by
        rw [← Nat.pow_add, ← Nat.pow_add]; congr 1; omega
      rw [e]; exact this
  have hup : mag * 2 ^ E.toNat < 2 ^ (F + 1) * (2 ^ k * 2 ^ (-E).toNat) := by
    have h1 : mag * 2 ^ E.toNat < 2 ^ (mag.log2 + 1) * 2 ^ E.toNat := Nat.mul_lt_mul_of_pos_right hl1 (two_pow_pos _)
    have h2 : 2 ^ (mag.log2 + 1) * 2 ^ E.toNat ≤ 2 ^ (F + 1) * (2 ^ k * 2 ^ (-E).toNat) := by
      rw [← Nat.pow_add, ← Nat.pow_add, ← Nat.pow_add]
      exact Nat.pow_le_pow_right (by omega) (by omega)
    omega
  refine rung_of_near hF hB (near_hi hnear hC hup) hnear ?_
  by_cases h0 : k = 0
  · exact .inl h0
  · have hlo : 2 ^ F * (2 ^ k * 2 ^ (-E).toNat) ≤ mag * 2 ^ E.toNat := by
      have h1 : 2 ^ mag.log2 * 2 ^ E.toNat ≤ mag * 2 ^ E.toNat := Nat.mul_le_mul_right _ hl2
      have h2 : 2 ^ F * (2 ^ k * 2 ^ (-E).toNat) ≤ 2 ^ mag.log2 * 2 ^ E.toNat := by
        rw [← Nat.pow_add, ← Nat.pow_add, ← Nat.pow_add]
        exact Nat.pow_le_pow_right (by omega) (by omega)
      omega
    have := near_lo hnear hC hlo
    omega

/-- comparing with every midpoint alike is rounding alike -/
theorem IsRnd.alike {F A B A' B' b : Nat} (h : IsRnd F A B b) (hc : ∀ c, ((val F c + val F (c + 1)) * B < 2 * A ↔ (val F c + val F (c + 1)) * B' < 2 * A') ∧ ((val F c + val F (c + 1)) * B = 2 * A ↔ (val F c + val F (c + 1)) * B' = 2 * A')) : IsRnd F A' B' b := by
  obtain ⟨h1, h2, h3⟩ := h
  refine ⟨fun c hcb => ?_, ?_, ?_⟩
  · subst hcb
    obtain ⟨g1, g2⟩ := h1 c rfl
    obtain ⟨k1, k2⟩ := hc c
    refine ⟨?_, fun e => g2 (k2.mpr e)⟩
    rcases Nat.lt_or_ge ((val F c + val F (c + 1)) * B) (2 * A) with g | g
    · exact Nat.le_of_lt (k1.mp g)
    · exact Nat.le_of_eq (k2.mp (by omega))
  · obtain ⟨k1, k2⟩ := hc b
    rcases Nat.lt_or_ge (2 * A') ((val F b + val F (b + 1)) * B') with g | g
    · omega
    · rcases Nat.lt_or_ge ((val F b + val F (b + 1)) * B') (2 * A') with g' | g'
      · have := k1.mpr g'; omega
      · omega
  · obtain ⟨k1, k2⟩ := hc b
    intro e
    exact h3 (k2.mpr e.symm).symm
/-- a quotient that is cut, and marked where anything is left over, is rounded as the quotient: q is D / n cut, e1 and e2 the powers -/
theorem quot_rnd {F D n e1 e2 b : Nat} (hn : 0 < n) (hq : 2 ^ (F + 1) ≤ D / n) (h : IsRnd F ((2 * (D / n) + (if D % n = 0 then 0 else 1)) * 2 ^ e1) (2 ^ e2) b) : IsRnd F (2 * D * 2 ^ e1) (n * 2 ^ e2) b := by
  refine h.alike fun c => ?_
  have hdm := Nat.div_add_mod D n
  have hml := Nat.mod_lt D hn
  generalize D / n = q at *
  generalize D % n = r at *
  obtain ⟨s, hs⟩ : ∃ s, s = if r = 0 then 0 else 1 := ⟨_, rfl⟩
  rw [← hs]
  have hs2 : (r = 0 ∧ s = 0) ∨ (r ≠ 0 ∧ s = 1) := by
    by_cases h0 : r = 0
    · exact .inl ⟨h0, by rw [hs, if_pos h0]⟩
    · exact .inr ⟨h0, by rw [hs, if_neg h0]⟩
  clear hs h
  obtain ⟨k, m, rfl, hk, hm⟩ := decomp F c
  have v0 := val_of F k m hk (by omega)
  have v1 := val_succ_of F k m hk hm
  have hp1 := two_pow_pos e1
  rw [v0, v1]
  have es : m * 2 ^ k + (m + 1) * 2 ^ k = (2 * m + 1) * 2 ^ k := by rw [← Nat.add_mul]; congr 1; omega
  rw [es]
  have eX : (2 * m + 1) * 2 ^ k * 2 ^ e2 = (2 * m + 1) * 2 ^ (k + e2) := by rw [Nat.mul_assoc, ← Nat.pow_add]
  have eX2 : (2 * m + 1) * 2 ^ k * (n * 2 ^ e2) = (2 * m + 1) * 2 ^ (k + e2) * n := by rw [Nat.pow_add]; ac_rfl
  rw [eX, eX2]
  have eA : 2 * (2 * D * 2 ^ e1) = 4 * D * 2 ^ e1 := by rw [← Nat.mul_assoc, ← Nat.mul_assoc]
  rw [eA]
  have hD : D = n * q + r := hdm.symm
  rcases Nat.lt_or_ge (k + e2) (e1 + 2) with g | g
  · -- far below
    have h1 : (2 * m + 1) * 2 ^ (k + e2) < 2 ^ (F + 2) * 2 ^ (k + e2) := Nat.mul_lt_mul_of_pos_right (by have := pow_succ2 (F + 1); rw [show F + 1 + 1 = F + 2 from rfl] at this; omega) (two_pow_pos _)
    have h2 : 2 ^ (F + 2) * 2 ^ (k + e2) ≤ 2 ^ (F + 3) * 2 ^ e1 := by
      rw [← Nat.pow_add, ← Nat.pow_add]; exact Nat.pow_le_pow_right (by omega) (by omega)
    have h3 : 2 ^ (F + 3) * 2 ^ e1 ≤ 4 * q * 2 ^ e1 := by
      apply Nat.mul_le_mul_right
      rw [show F + 3 = F + 1 + 2 from rfl, Nat.pow_add]; omega
    have hX : (2 * m + 1) * 2 ^ (k + e2) < 4 * q * 2 ^ e1 := by omega
    have hL : 4 * q * 2 ^ e1 ≤ 2 * ((2 * q + s) * 2 ^ e1) := by
      rw [← Nat.mul_assoc]; apply Nat.mul_le_mul_right; omega
    have hR : 4 * q * 2 ^ e1 * n ≤ 4 * D * 2 ^ e1 := by
      rw [show 4 * q * 2 ^ e1 * n = 4 * (n * q) * 2 ^ e1 by ac_rfl]
      apply Nat.mul_le_mul_right; omega
    have hX2 : (2 * m + 1) * 2 ^ (k + e2) * n < 4 * q * 2 ^ e1 * n := Nat.mul_lt_mul_of_pos_right hX hn
    exact ⟨⟨fun _ => by omega, fun _ => by omega⟩, ⟨fun e => by omega, fun e => by omega⟩⟩
  · -- a multiple of four units
    obtain ⟨j, hj⟩ : ∃ j, k + e2 = e1 + 2 + j := ⟨k + e2 - (e1 + 2), by omega⟩
    obtain ⟨Y, hY⟩ : ∃ Y, Y = (2 * m + 1) * 2 ^ j := ⟨_, rfl⟩
    have eXY : (2 * m + 1) * 2 ^ (k + e2) = 4 * Y * 2 ^ e1 := by
      rw [hj, Nat.pow_add, Nat.pow_add, hY, show (2 : Nat) ^ 2 = 4 from rfl]; ac_rfl
    rw [eXY, ← Nat.mul_assoc 2, show 4 * Y * 2 ^ e1 * n = 4 * (n * Y) * 2 ^ e1 by ac_rfl]
    have k1 : ∀ a b : Nat, a * 2 ^ e1 < b * 2 ^ e1 ↔ a < b := fun a b => ⟨fun h => Nat.lt_of_mul_lt_mul_right h, fun h => Nat.mul_lt_mul_of_pos_right h hp1⟩
    have k2 : ∀ a b : Nat, a * 2 ^ e1 = b * 2 ^ e1 ↔ a = b := fun a b => ⟨fun h => Nat.eq_of_mul_eq_mul_right hp1 h, fun h => by rw [h]⟩
    rw [k1, k1, k2, k2]
    have c1 : Y ≤ q → n * Y ≤ n * q := fun h => Nat.mul_le_mul_left _ h
    have c2 : q + 1 ≤ Y → n * (q + 1) ≤ n * Y := fun h => Nat.mul_le_mul_left _ h
    have c3 : Y + 1 ≤ q → n * (Y + 1) ≤ n * q := fun h => Nat.mul_le_mul_left _ h
    rw [Nat.mul_add, Nat.mul_one] at c2 c3
    rcases Nat.lt_trichotomy Y q with gy | gy | gy
    · have := c3 gy
      constructor <;> constructor <;> intro h <;> omega
    · subst gy
      constructor <;> constructor <;> intro h <;> omega
    · have := c2 gy
      constructor <;> constructor <;> intro h <;> omega
end Go.Proofs.Ytpjanmahbimhkaa.SF
