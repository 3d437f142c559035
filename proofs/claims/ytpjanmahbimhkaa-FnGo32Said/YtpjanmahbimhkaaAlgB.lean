/-
  Plain mathematics: more on differences; the order.
-/
import Derived.Test.YtpjanmahbimhkaaAlg
namespace Go.Proofs.Ytpjanmahbimhkaa.SF
open Go.RowKit
set_option linter.unusedVariables false

/-- the nearest float to what is a float -/
theorem addf_of64 {x y b : Nat} (h : (sv64 x + sv64 y).natAbs = val 52 b) (hb : b ≤ 9218868437227405312) (h0 : b ≠ 0) : addf64 x y = sgn64 (decide (sv64 x + sv64 y < 0)) b := by
  have hne : sv64 x + sv64 y ≠ 0 := by
    intro hz
    rw [hz] at h
    exact h0 ((val_eq_zero 52).mp h.symm)
  unfold addf64
  rw [if_neg hne]
  exact rd_val64 _ (by omega) (by rw [h, Nat.mul_one]) hb
/-- the nearest float to what is a float -/
theorem addf_of32 {x y b : Nat} (h : (sv32 x + sv32 y).natAbs = val 23 b) (hb : b ≤ 2139095040) (h0 : b ≠ 0) : addf32 x y = sgn32 (decide (sv32 x + sv32 y < 0)) b := by
  have hne : sv32 x + sv32 y ≠ 0 := by
    intro hz
    rw [hz] at h
    exact h0 ((val_eq_zero 23).mp h.symm)
  unfold addf32
  rw [if_neg hne]
  exact rd_val32 _ (by omega) (by rw [h, Nat.mul_one]) hb
theorem sub_two_one64 : add64 4611686018427387904 (flip64 4607182418800017408) = 4607182418800017408 := by
  have e : flip64 4607182418800017408 = 13830554455654793216 := by decide
  rw [e, add_ff64 (by decide) (by decide)]
  have h1 : sv64 4611686018427387904 = ((2 ^ 1075 : Nat) : Int) := by rw [sv_sk64, val_two64]; rfl
  have h2 : val64 13830554455654793216 = 2 ^ 1074 := by
    have e : mag64 13830554455654793216 = (1022 + 1) * 2 ^ 52 := by decide
    exact (congrArg (val 52) e).trans (val_topL (F := 52) (T := 1022) (L := 1074) rfl)
  have h3 : sv64 13830554455654793216 = -((2 ^ 1074 : Nat) : Int) := by rw [sv_sk64, h2]; rfl
  have h4 : val 52 4607182418800017408 = 2 ^ 1074 := by
    have e : (4607182418800017408 : Nat) = (1022 + 1) * 2 ^ 52 := by decide
    exact (congrArg (val 52) e).trans (val_topL (F := 52) (T := 1022) (L := 1074) rfl)
  have e2 := pow_succ2 1074
  rw [show 1074 + 1 = 1075 from rfl] at e2
  have hp := two_pow_pos 1074
  rw [e2] at h1
  generalize 2 ^ 1074 = p at *
  rw [addf_of64 (b := 4607182418800017408) (by rw [h1, h3, h4]; omega) (by omega) (by omega), h1, h3, decide_eq_false (by omega)]
  rfl

/-- how two floats stand to each other, by their places -/
def ordI (a b : Int) : Int := if a < b then -1 else if a = b then 0 else 1
theorem cmp_turn (a b : Int) : ordI b a = -ordI a b := by unfold ordI; split <;> split <;> (try split) <;> (try split) <;> omega
theorem key_zero64 {x : Nat} : key64 x = 0 ↔ mag64 x = 0 := by unfold key64 sk; cases neg64 x <;> simp
/-- a difference is 0 just of equal floats -/
theorem sub_zero_iff64 {x y : Nat} (hx : fin64 x = true) (hy : fin64 y = true) : isZero64 (add64 x (flip64 y)) = true ↔ key64 x = key64 y := by
  rw [add_ff64 hx (by rw [fin_flip64]; exact hy), zero_iff64, mag_addf64, sv_flip64, key_sv_eq64]
  constructor
  · intro h
    by_cases hz : sv64 x + -sv64 y = 0
    · omega
    · exfalso
      have := rn_pos (F := 52) (by omega) (A := (sv64 x + -sv64 y).natAbs) (B := 1) (by omega) (by omega)
      omega
  · intro h
    have hz : sv64 x + -sv64 y = 0 := by omega
    rw [hz]
    simp [rn_zero]
theorem key_sub_pos64 {x y : Nat} (hx : fin64 x = true) (hy : fin64 y = true) : 0 < key64 (add64 x (flip64 y)) ↔ key64 y < key64 x := by
  rw [add_ff64 hx (by rw [fin_flip64]; exact hy), key_addf64, sv_flip64, key_sv_lt64]
  rcases Int.lt_trichotomy (sv64 x + -sv64 y) 0 with h | h | h
  · have := rk_nonneg64 (s := -(sv64 x + -sv64 y)) (by omega)
    rw [rk_neg64] at this
    omega
  · rw [h, rk_zero64]; omega
  · have h1 := rn_pos (F := 52) (by omega) (A := (sv64 x + -sv64 y).natAbs) (B := 1) (by omega) (by omega)
    have h2 : 0 < rk64 (sv64 x + -sv64 y) := by
      unfold rk64
      rw [decide_eq_false (by omega)]
      simp only [sk, Bool.false_eq_true, if_false]
      omega
    omega
theorem sub_turned64 {x y : Nat} (hx : x < 18446744073709551616) (hy : y < 18446744073709551616) (hz : isZero64 (add64 x (flip64 y)) = false) : alikeB64 (add64 y (flip64 x)) (flip64 (add64 x (flip64 y))) = true := by
  cases hn : isNaN64 (add64 x (flip64 y))
  · have h := add_flip264 hn hz
    rw [flip_flip64 hy] at h
    rw [add_comm64 y, h]
    exact alike_self64 _
  · have h2 : isNaN64 (add64 y (flip64 x)) = true := by
      cases h : isNaN64 (add64 y (flip64 x))
      · exfalso
        obtain ⟨a, b, c⟩ := add_ok64 h
        rw [isNaN_flip64] at b
        cases ix : isInf64 x
        · cases iy : isInf64 y
          · rw [add_ff64 (fin_of64 b ix) (by rw [fin_flip64]; exact fin_of64 a iy), nan_addf64] at hn; cases hn
          · rw [add_ir64 b (by rw [isNaN_flip64]; exact a) (by rw [isInf_flip64]; exact iy) (.inl ix), isNaN_flip64, a] at hn; cases hn
        · cases iy : isInf64 y
          · rw [add_il64 b (by rw [isNaN_flip64]; exact a) ix (.inl (by rw [isInf_flip64]; exact iy)), b] at hn; cases hn
          · have e := c iy (by rw [isInf_flip64]; exact ix)
            rw [e, flip_flip64 hx, add_il64 b b ix (.inr rfl), b] at hn; cases hn
      · rfl
    unfold alikeB64
    rw [isNaN_flip64, hn, h2]; simp
theorem sub_zero_ok64 {x y : Nat} (hx : x < 18446744073709551616) (hy : y < 18446744073709551616) (hz : isZero64 (add64 x (flip64 y)) = true) : fin64 x = true ∧ fin64 y = true := by
  have hn : isNaN64 (add64 x (flip64 y)) = false := nan_not64.mpr (by rw [zero_iff64.mp hz]; omega)
  obtain ⟨a, b, c⟩ := add_ok64 hn
  rw [isNaN_flip64] at b
  have iz : isInf64 (add64 x (flip64 y)) = false := inf_not64.mpr (by rw [zero_iff64.mp hz]; omega)
  cases ix : isInf64 x
  · cases iy : isInf64 y
    · exact ⟨fin_of64 a ix, fin_of64 b iy⟩
    · rw [add_ir64 a (by rw [isNaN_flip64]; exact b) (by rw [isInf_flip64]; exact iy) (.inl ix), isInf_flip64, iy] at iz; cases iz
  · cases iy : isInf64 y
    · rw [add_il64 a (by rw [isNaN_flip64]; exact b) ix (.inl (by rw [isInf_flip64]; exact iy)), ix] at iz; cases iz
    · have e := c ix (by rw [isInf_flip64]; exact iy)
      rw [add_il64 a (by rw [isNaN_flip64]; exact b) ix (.inr e), ix] at iz; cases iz
theorem key_zero32 {x : Nat} : key32 x = 0 ↔ mag32 x = 0 := by unfold key32 sk; cases neg32 x <;> simp
/-- a difference is 0 just of equal floats -/
theorem sub_zero_iff32 {x y : Nat} (hx : fin32 x = true) (hy : fin32 y = true) : isZero32 (add32 x (flip32 y)) = true ↔ key32 x = key32 y := by
  rw [add_ff32 hx (by rw [fin_flip32]; exact hy), zero_iff32, mag_addf32, sv_flip32, key_sv_eq32]
  constructor
  · intro h
    by_cases hz : sv32 x + -sv32 y = 0
    · omega
    · exfalso
      have := rn_pos (F := 23) (by omega) (A := (sv32 x + -sv32 y).natAbs) (B := 1) (by omega) (by omega)
      omega
  · intro h
    have hz : sv32 x + -sv32 y = 0 := by omega
    rw [hz]
    simp [rn_zero]
theorem key_sub_pos32 {x y : Nat} (hx : fin32 x = true) (hy : fin32 y = true) : 0 < key32 (add32 x (flip32 y)) ↔ key32 y < key32 x := by
  rw [add_ff32 hx (by rw [fin_flip32]; exact hy), key_addf32, sv_flip32, key_sv_lt32]
  rcases Int.lt_trichotomy (sv32 x + -sv32 y) 0 with h | h | h
  · have := rk_nonneg32 (s := -(sv32 x + -sv32 y)) (by omega)
    rw [rk_neg32] at this
    omega
  · rw [h, rk_zero32]; omega
  · have h1 := rn_pos (F := 23) (by omega) (A := (sv32 x + -sv32 y).natAbs) (B := 1) (by omega) (by omega)
    have h2 : 0 < rk32 (sv32 x + -sv32 y) := by
      unfold rk32
      rw [decide_eq_false (by omega)]
      simp only [sk, Bool.false_eq_true, if_false]
      omega
    omega
theorem sub_turned32 {x y : Nat} (hx : x < 4294967296) (hy : y < 4294967296) (hz : isZero32 (add32 x (flip32 y)) = false) : alikeB32 (add32 y (flip32 x)) (flip32 (add32 x (flip32 y))) = true := by
  cases hn : isNaN32 (add32 x (flip32 y))
  · have h := add_flip232 hn hz
    rw [flip_flip32 hy] at h
    rw [add_comm32 y, h]
    exact alike_self32 _
  · have h2 : isNaN32 (add32 y (flip32 x)) = true := by
      cases h : isNaN32 (add32 y (flip32 x))
      · exfalso
        obtain ⟨a, b, c⟩ := add_ok32 h
        rw [isNaN_flip32] at b
        cases ix : isInf32 x
        · cases iy : isInf32 y
          · rw [add_ff32 (fin_of32 b ix) (by rw [fin_flip32]; exact fin_of32 a iy), nan_addf32] at hn; cases hn
          · rw [add_ir32 b (by rw [isNaN_flip32]; exact a) (by rw [isInf_flip32]; exact iy) (.inl ix), isNaN_flip32, a] at hn; cases hn
        · cases iy : isInf32 y
          · rw [add_il32 b (by rw [isNaN_flip32]; exact a) ix (.inl (by rw [isInf_flip32]; exact iy)), b] at hn; cases hn
          · have e := c iy (by rw [isInf_flip32]; exact ix)
            rw [e, flip_flip32 hx, add_il32 b b ix (.inr rfl), b] at hn; cases hn
      · rfl
    unfold alikeB32
    rw [isNaN_flip32, hn, h2]; simp
theorem sub_zero_ok32 {x y : Nat} (hx : x < 4294967296) (hy : y < 4294967296) (hz : isZero32 (add32 x (flip32 y)) = true) : fin32 x = true ∧ fin32 y = true := by
  have hn : isNaN32 (add32 x (flip32 y)) = false := nan_not32.mpr (by rw [zero_iff32.mp hz]; omega)
  obtain ⟨a, b, c⟩ := add_ok32 hn
  rw [isNaN_flip32] at b
  have iz : isInf32 (add32 x (flip32 y)) = false := inf_not32.mpr (by rw [zero_iff32.mp hz]; omega)
  cases ix : isInf32 x
  · cases iy : isInf32 y
    · exact ⟨fin_of32 a ix, fin_of32 b iy⟩
    · rw [add_ir32 a (by rw [isNaN_flip32]; exact b) (by rw [isInf_flip32]; exact iy) (.inl ix), isInf_flip32, iy] at iz; cases iz
  · cases iy : isInf32 y
    · rw [add_il32 a (by rw [isNaN_flip32]; exact b) ix (.inl (by rw [isInf_flip32]; exact iy)), ix] at iz; cases iz
    · have e := c ix (by rw [isInf_flip32]; exact iy)
      rw [add_il32 a (by rw [isNaN_flip32]; exact b) ix (.inr e), ix] at iz; cases iz
end Go.Proofs.Ytpjanmahbimhkaa.SF
