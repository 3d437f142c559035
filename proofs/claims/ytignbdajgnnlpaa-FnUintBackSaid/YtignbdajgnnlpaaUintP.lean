/-
  Plain mathematics: whole numbers of 64 bits without a sign, by way of half of them; a float less what is too small.
-/
import Derived.Test.YtignbdajgnnlpaaIntP
namespace Go.Proofs.Ytignbdajgnnlpaa.SF
open Go.RowKit
set_option linter.unusedVariables false

/-- the rung of what is doubled -/
theorem val_dbl {F b : Nat} (h : 2 ^ F ≤ b) : val F (b + 2 ^ F) = 2 * val F b := by
  obtain ⟨k, n, rfl, hk, hn⟩ := decomp F b
  have hp := two_pow_pos F
  have hn1 : 2 ^ F ≤ n := by
    rcases hk with h0 | h0
    · rw [h0, Nat.zero_mul] at h; omega
    · exact h0
  have e : k * 2 ^ F + n + 2 ^ F = (k + 1) * 2 ^ F + n := by rw [Nat.add_mul]; omega
  rw [e, val_of F (k + 1) n (.inr hn1) (by omega), val_of F k n hk (by omega), pow_succ2]
  ac_rfl
theorem IsRnd.dbl {F A b : Nat} (hF : 1 ≤ F) (h : IsRnd F A 1 b) (hb : 2 ^ F + 1 ≤ b) : IsRnd F (2 * A) 1 (b + 2 ^ F) := by
  obtain ⟨h1, h2, h3⟩ := h
  obtain ⟨c, rfl⟩ : ∃ c, b = c + 1 := ⟨b - 1, by have := two_pow_pos F; omega⟩
  have hpar := parity_rung F 1 (c + 1) hF
  rw [Nat.one_mul, Nat.add_comm] at hpar
  have v1 := val_dbl (F := F) (b := c) (by omega)
  have v2 := val_dbl (F := F) (b := c + 1) (by omega)
  have v3 := val_dbl (F := F) (b := c + 1 + 1) (by omega)
  obtain ⟨g1, g2⟩ := h1 c rfl
  generalize 2 ^ F = p at *
  refine ⟨fun d hd => ?_, ?_, ?_⟩
  · have : d = c + p := by clear hpar; omega
    subst this
    rw [v1, v2, hpar]
    clear hpar
    exact ⟨by omega, fun e => g2 (by omega)⟩
  · rw [v2, show c + 1 + p + 1 = c + 1 + 1 + p by clear hpar; omega, v3]; clear hpar; omega
  · rw [v2, show c + 1 + p + 1 = c + 1 + 1 + p by clear hpar; omega, v3, hpar]
    clear hpar
    intro e
    exact h3 (by omega)
/-- the distance between two rungs: a power of 2 that is no less than their size allows -/
theorem mid_form {F c L : Nat} (h : 2 ^ (F + 1 + L) ≤ val F (c + 1)) : ∃ μ, val F c + val F (c + 1) = μ * 2 ^ L ∧ val F c + 2 ^ L ≤ val F (c + 1) := by
  obtain ⟨k, n, rfl, hk, hn⟩ := decomp F c
  have v0 := val_of F k n hk (by omega)
  have v1 := val_succ_of F k n hk hn
  have hL : L ≤ k := by
    rw [v1] at h
    have h1 : (n + 1) * 2 ^ k ≤ 2 ^ (F + 1) * 2 ^ k := Nat.mul_le_mul_right _ hn
    rw [← Nat.pow_add] at h1
    have := (Nat.pow_le_pow_iff_right (a := 2) (by omega)).mp (Nat.le_trans h h1)
    omega
  obtain ⟨d, rfl⟩ : ∃ d, k = L + d := ⟨k - L, by omega⟩
  refine ⟨(2 * n + 1) * 2 ^ d, ?_, ?_⟩
  · rw [v0, v1, Nat.pow_add]
    have : n * (2 ^ L * 2 ^ d) + (n + 1) * (2 ^ L * 2 ^ d) = (2 * n + 1) * (2 ^ L * 2 ^ d) := by
      rw [← Nat.add_mul]; congr 1; omega
    rw [this]; ac_rfl
  · rw [v0, v1, Nat.add_mul, Nat.one_mul]
    have := Nat.pow_le_pow_right (n := 2) (by omega) hL
    omega
/-- no midpoint lies between both numbers -/
theorem IsRnd.near_int {F x y L b : Nat} (h : IsRnd F (x * 2 ^ L) 1 b) (hb : 2 ^ (F + 1 + (L + 3)) ≤ val F b) (hxy : ∀ μ : Nat, (8 * μ < 2 * x ↔ 8 * μ < 2 * y) ∧ 8 * μ ≠ 2 * x ∧ 8 * μ ≠ 2 * y) : IsRnd F (y * 2 ^ L) 1 b := by
  have hp := two_pow_pos L
  have e8 : 2 ^ (L + 3) = 8 * 2 ^ L := by rw [Nat.pow_add]; omega
  have key : ∀ c, 2 ^ (F + 1 + (L + 3)) ≤ val F (c + 1) → ((val F c + val F (c + 1)) * 1 < 2 * (x * 2 ^ L) ↔ (val F c + val F (c + 1)) * 1 < 2 * (y * 2 ^ L)) ∧ (val F c + val F (c + 1)) * 1 ≠ 2 * (x * 2 ^ L) ∧ (val F c + val F (c + 1)) * 1 ≠ 2 * (y * 2 ^ L) := by
    intro c hc
    obtain ⟨μ, hμ, _⟩ := mid_form hc
    obtain ⟨a1, a2, a3⟩ := hxy μ
    rw [hμ, e8, Nat.mul_one, show μ * (8 * 2 ^ L) = 8 * μ * 2 ^ L by ac_rfl, ← Nat.mul_assoc 2 x, ← Nat.mul_assoc 2 y]
    have k1 : ∀ z, 8 * μ * 2 ^ L < z * 2 ^ L ↔ 8 * μ < z := fun z => ⟨fun h => Nat.lt_of_mul_lt_mul_right h, fun h => Nat.mul_lt_mul_of_pos_right h hp⟩
    have k2 : ∀ z, 8 * μ ≠ z → 8 * μ * 2 ^ L ≠ z * 2 ^ L := fun z hz h => hz (Nat.eq_of_mul_eq_mul_right hp h)
    rw [k1, k1]
    exact ⟨a1, k2 _ a2, k2 _ a3⟩
  obtain ⟨h1, h2, h3⟩ := h
  refine ⟨fun c hc => ?_, ?_⟩
  · subst hc
    obtain ⟨b1, b2, b3⟩ := key c hb
    obtain ⟨g1, g2⟩ := h1 c rfl
    have := b1.mp (by omega)
    exact ⟨by omega, fun e => by omega⟩
  · obtain ⟨b1, b2, b3⟩ := key b (Nat.le_trans hb (Nat.le_of_lt (val_lt_succ F b)))
    have := fun h => b1.mpr h
    exact ⟨by omega, fun e => by omega⟩
theorem pow62 {L b : Nat} (h : L = 62 + b) : 2 ^ L = 4611686018427387904 * 2 ^ b := by subst h; rw [Nat.pow_add]
theorem pow63 {L b : Nat} (h : L = 63 + b) : 2 ^ L = 9223372036854775808 * 2 ^ b := by subst h; rw [Nat.pow_add]
/-- half a number, the digit that is lost kept in the last one -/
def half1 (x : Nat) : Nat := if x / 2 % 2 = 1 then x / 2 else x / 2 + x % 2
theorem half1_bd {x : Nat} (h : 9223372036854775808 ≤ x) (h2 : x < 18446744073709551616) : 4611686018427387904 ≤ half1 x ∧ half1 x < 9223372036854775808 := by unfold half1; split <;> omega
theorem half1_xy (x : Nat) (hx : x % 2 = 1) : ∀ μ : Nat, (8 * μ < 2 * (2 * half1 x) ↔ 8 * μ < 2 * x) ∧ 8 * μ ≠ 2 * (2 * half1 x) ∧ 8 * μ ≠ 2 * x := by
  intro μ
  unfold half1
  split <;> omega
theorem half1_even {x : Nat} (hx : x % 2 = 0) : 2 * half1 x = x := by unfold half1; split <;> omega
theorem val_ge64 {L b : Nat} (h : 2 ^ L ≤ val 52 b) (hL : 52 + 1 ≤ L) : 2 ^ 52 + 1 ≤ b := by
  rcases Nat.lt_or_ge b (2 ^ 52 + 1) with g | g
  · exfalso
    have h1 := val_of 52 0 b (.inl rfl) (Nat.le_trans (Nat.le_of_lt_succ g) (by decide))
    rw [Nat.zero_mul, Nat.zero_add, Nat.pow_zero, Nat.mul_one] at h1
    have h2 := Nat.pow_le_pow_right (n := 2) (by omega) hL
    have h3 : (2 : Nat) ^ (52 + 1) = 2 * 2 ^ 52 := pow_succ2 52
    have h4 : (2 : Nat) ≤ 2 ^ 52 := by decide
    rw [h1] at h
    generalize (2 : Nat) ^ L = Z at *
    omega
  · exact g
theorem from_half64 {x : Nat} (h : 9223372036854775808 ≤ x) (h2 : x < 18446744073709551616) : add64 (fromN64 false (half1 x)) (fromN64 false (half1 x)) = fromN64 false x := by
  obtain ⟨b1, b2⟩ := half1_bd h h2
  obtain ⟨L2, hL2⟩ : ∃ L, L = 62 + 1074 := ⟨_, rfl⟩
  obtain ⟨L3, hL3⟩ : ∃ L, L = 63 + 1074 := ⟨_, rfl⟩
  have hr := rn_spec (F := 52) (by omega) (half1 x * 2 ^ 1074) 1 (by omega)
  -- the rung of 1 << 62
  have hlow : 2 ^ L2 ≤ val 52 (rn 52 (half1 x * 2 ^ 1074) 1) := by
    obtain ⟨c, hc⟩ := rep_val 52 L2 1 (by decide)
    rw [Nat.one_mul] at hc
    have h3 : val 52 c * 1 ≤ half1 x * 2 ^ 1074 := by
      rw [hc, Nat.mul_one, pow62 (b := 1074) hL2]
      generalize 2 ^ 1074 = p
      exact Nat.mul_le_mul_right p b1
    rw [← hc]
    exact val_le 52 (rn_ge (by omega) (by omega) h3)
  have hup : rn 52 (half1 x * 2 ^ 1074) 1 < 9218868437227405312 := by
    rcases Nat.lt_or_ge (rn 52 (half1 x * 2 ^ 1074) 1) 9218868437227405312 with g | g
    · exact g
    · exfalso
      obtain ⟨c, hc⟩ := rep_val 52 L3 1 (by decide)
      rw [Nat.one_mul] at hc
      have h3 : half1 x * 2 ^ 1074 ≤ val 52 c * 1 := by
        rw [hc, Nat.mul_one, pow63 (b := 1074) hL3]
        generalize 2 ^ 1074 = p
        exact Nat.mul_le_mul_right p (Nat.le_of_lt b2)
      have h4 := rn_le (F := 52) (by omega) (by omega) h3
      have h5 := val_le 52 (Nat.le_trans g h4)
      rw [inf_val64, hc] at h5
      have := (Nat.pow_le_pow_iff_right (a := 2) (by omega)).mp h5
      omega
  generalize hbd : rn 52 (half1 x * 2 ^ 1074) 1 = b at *
  have hb1 := val_ge64 hlow (by omega)
  have hd := IsRnd.dbl (by omega) hr hb1
  have hd2 := val_dbl (F := 52) (b := b) (by omega)
  -- what is rounded once
  have hx : rn 52 (x * 2 ^ 1074) 1 = b + 2 ^ 52 := by
    have e : 2 * (half1 x * 2 ^ 1074) = 2 * half1 x * 2 ^ 1074 := (Nat.mul_assoc _ _ _).symm
    rw [e] at hd
    rcases Nat.mod_two_eq_zero_or_one x with g | g
    · rw [half1_even g] at hd
      exact hd.rn (by omega)
    · refine (IsRnd.near_int hd ?_ (half1_xy x g)).rn (by omega)
      rw [hd2]
      have := Nat.pow_le_pow_right (n := 2) (by omega) (show 52 + 1 + (1074 + 3) ≤ L2 by omega)
      exact Nat.le_trans this (Nat.le_trans hlow (by omega))
  have hfx : fromN64 false x = sgn64 false (min (b + 2 ^ 52) 9218868437227405312) := by
    unfold fromN64 rd64
    rw [hx]
  have hf : fromN64 false (half1 x) = sgn64 false b := by
    unfold fromN64 rd64
    rw [hbd, Nat.min_eq_left (by omega)]
  rw [hf, hfx]
  have hm := mag_sgn64 false (b := b) (by omega)
  have hn := neg_sgn64 false (b := b) (by omega)
  have hfin : fin64 (sgn64 false b) = true := fin_iff64.mpr (by omega)
  have hv : val64 (sgn64 false b) = val 52 b := by unfold val64; rw [hm]
  rw [add_ff64 hfin hfin, addf_same64 rfl (by rw [hv]; have := val_lt 52 (show 0 < b by omega); omega), hn, hv]
  unfold rd64
  have := rn_of_val (F := 52) (A := val 52 b + val 52 b) (B := 1) (b := b + 2 ^ 52) (by omega) (by rw [hd2]; omega)
  rw [this]
theorem val_ge32 {L b : Nat} (h : 2 ^ L ≤ val 23 b) (hL : 23 + 1 ≤ L) : 2 ^ 23 + 1 ≤ b := by
  rcases Nat.lt_or_ge b (2 ^ 23 + 1) with g | g
  · exfalso
    have h1 := val_of 23 0 b (.inl rfl) (Nat.le_trans (Nat.le_of_lt_succ g) (by decide))
    rw [Nat.zero_mul, Nat.zero_add, Nat.pow_zero, Nat.mul_one] at h1
    have h2 := Nat.pow_le_pow_right (n := 2) (by omega) hL
    have h3 : (2 : Nat) ^ (23 + 1) = 2 * 2 ^ 23 := pow_succ2 23
    have h4 : (2 : Nat) ≤ 2 ^ 23 := by decide
    rw [h1] at h
    generalize (2 : Nat) ^ L = Z at *
    omega
  · exact g
theorem from_half32 {x : Nat} (h : 9223372036854775808 ≤ x) (h2 : x < 18446744073709551616) : add32 (fromN32 false (half1 x)) (fromN32 false (half1 x)) = fromN32 false x := by
  obtain ⟨b1, b2⟩ := half1_bd h h2
  obtain ⟨L2, hL2⟩ : ∃ L, L = 62 + 149 := ⟨_, rfl⟩
  obtain ⟨L3, hL3⟩ : ∃ L, L = 63 + 149 := ⟨_, rfl⟩
  have hr := rn_spec (F := 23) (by omega) (half1 x * 2 ^ 149) 1 (by omega)
  -- the rung of 1 << 62
  have hlow : 2 ^ L2 ≤ val 23 (rn 23 (half1 x * 2 ^ 149) 1) := by
    obtain ⟨c, hc⟩ := rep_val 23 L2 1 (by decide)
    rw [Nat.one_mul] at hc
    have h3 : val 23 c * 1 ≤ half1 x * 2 ^ 149 := by
      rw [hc, Nat.mul_one, pow62 (b := 149) hL2]
      generalize 2 ^ 149 = p
      exact Nat.mul_le_mul_right p b1
    rw [← hc]
    exact val_le 23 (rn_ge (by omega) (by omega) h3)
  have hup : rn 23 (half1 x * 2 ^ 149) 1 < 2139095040 := by
    rcases Nat.lt_or_ge (rn 23 (half1 x * 2 ^ 149) 1) 2139095040 with g | g
    · exact g
    · exfalso
      obtain ⟨c, hc⟩ := rep_val 23 L3 1 (by decide)
      rw [Nat.one_mul] at hc
      have h3 : half1 x * 2 ^ 149 ≤ val 23 c * 1 := by
        rw [hc, Nat.mul_one, pow63 (b := 149) hL3]
        generalize 2 ^ 149 = p
        exact Nat.mul_le_mul_right p (Nat.le_of_lt b2)
      have h4 := rn_le (F := 23) (by omega) (by omega) h3
      have h5 := val_le 23 (Nat.le_trans g h4)
      rw [inf_val32, hc] at h5
      have := (Nat.pow_le_pow_iff_right (a := 2) (by omega)).mp h5
      omega
  generalize hbd : rn 23 (half1 x * 2 ^ 149) 1 = b at *
  have hb1 := val_ge32 hlow (by omega)
  have hd := IsRnd.dbl (by omega) hr hb1
  have hd2 := val_dbl (F := 23) (b := b) (by omega)
  -- what is rounded once
  have hx : rn 23 (x * 2 ^ 149) 1 = b + 2 ^ 23 := by
    have e : 2 * (half1 x * 2 ^ 149) = 2 * half1 x * 2 ^ 149 := (Nat.mul_assoc _ _ _).symm
    rw [e] at hd
    rcases Nat.mod_two_eq_zero_or_one x with g | g
    · rw [half1_even g] at hd
      exact hd.rn (by omega)
    · refine (IsRnd.near_int hd ?_ (half1_xy x g)).rn (by omega)
      rw [hd2]
      have := Nat.pow_le_pow_right (n := 2) (by omega) (show 23 + 1 + (149 + 3) ≤ L2 by omega)
      exact Nat.le_trans this (Nat.le_trans hlow (by omega))
  have hfx : fromN32 false x = sgn32 false (min (b + 2 ^ 23) 2139095040) := by
    unfold fromN32 rd32
    rw [hx]
  have hf : fromN32 false (half1 x) = sgn32 false b := by
    unfold fromN32 rd32
    rw [hbd, Nat.min_eq_left (by omega)]
  rw [hf, hfx]
  have hm := mag_sgn32 false (b := b) (by omega)
  have hn := neg_sgn32 false (b := b) (by omega)
  have hfin : fin32 (sgn32 false b) = true := fin_iff32.mpr (by omega)
  have hv : val32 (sgn32 false b) = val 23 b := by unfold val32; rw [hm]
  rw [add_ff32 hfin hfin, addf_same32 rfl (by rw [hv]; have := val_lt 23 (show 0 < b by omega); omega), hn, hv]
  unfold rd32
  have := rn_of_val (F := 23) (A := val 23 b + val 23 b) (B := 1) (b := b + 2 ^ 23) (by omega) (by rw [hd2]; omega)
  rw [this]
/-- a float less a number that is too small to be seen -/
theorem rn_less {F b δ L : Nat} (h : 2 ^ (F + 1 + L) ≤ val F b) (hδ : 2 * δ < 2 ^ L) : rn F (val F b - δ) 1 = b := by
  rcases Nat.eq_zero_or_pos b with g | g
  · subst g
    rw [val_zero] at h ⊢
    have := two_pow_pos (F + 1 + L)
    omega
  · obtain ⟨c, rfl⟩ : ∃ c, b = c + 1 := ⟨b - 1, by omega⟩
    obtain ⟨μ, _, h2⟩ := mid_form h
    have h3 := val_lt_succ F (c + 1)
    have hr : IsRnd F (val F (c + 1) - δ) 1 (c + 1) := by
      refine ⟨fun d hd => ?_, ?_⟩
      · have : d = c := by omega
        subst this
        exact ⟨by omega, fun e => by omega⟩
      · exact ⟨by omega, fun e => by omega⟩
    exact hr.rn (by omega)
end Go.Proofs.Ytignbdajgnnlpaa.SF
