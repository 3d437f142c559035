/-
  Plain mathematics: there and back between both sizes; the order of what is widened and narrowed.
-/
import Derived.Test.YtpjanmahbimhkaaDR3
import Derived.Test.YtpjanmahbimhkaaAlgB
namespace Go.Proofs.Ytpjanmahbimhkaa.SF
open Go.RowKit
set_option linter.unusedVariables false

theorem narrow_widen {x : Nat} (hx : x < 4294967296) (h : isNaN32 x = false) : narrow (widen x) = x := by
  cases hi : isInf32 x
  · have hf := fin_of32 h hi
    obtain ⟨a, b, c⟩ := widen_fin hf
    have hm := fin_iff32.mp hf
    rw [narrow_fin a, b, c, rd_mulval32 (neg32 x) (two_pow_pos 925) (by omega), sgn_mag32 hx]
  · rw [widen_inf hi, inf_narrow, sgn_inf32 hx hi]
theorem narrow_widen_nan {x : Nat} (h : isNaN32 x = true) : isNaN32 (narrow (widen x)) = true := by
  rw [widen_nan h, nq_narrow]; decide

theorem mag_widen_le {x y : Nat} (nx : isNaN32 x = false) (ny : isNaN32 y = false) : mag64 (widen x) ≤ mag64 (widen y) ↔ mag32 x ≤ mag32 y := by
  have ix := widen_isInf x
  have iy := widen_isInf y
  have nx' := widen_isNaN x
  have ny' := widen_isNaN y
  rw [nx] at nx'
  rw [ny] at ny'
  have a1 := nan_not64.mp nx'
  have a2 := nan_not64.mp ny'
  have a3 := nan_not32.mp nx
  have a4 := nan_not32.mp ny
  cases hx : isInf32 x
  · rw [hx] at ix
    have b1 := inf_not64.mp ix
    have b2 := inf_not32.mp hx
    cases hy : isInf32 y
    · have vx : val 52 (mag64 (widen x)) = val 23 (mag32 x) * 2 ^ 925 := (widen_fin (fin_of32 nx hx)).2.2
      have vy : val 52 (mag64 (widen y)) = val 23 (mag32 y) * 2 ^ 925 := (widen_fin (fin_of32 ny hy)).2.2
      have h1 := @val_le_iff 52 (mag64 (widen x)) (mag64 (widen y))
      have h2 := @val_le_iff 23 (mag32 x) (mag32 y)
      rw [← h1, ← h2, vx, vy]
      have hp := two_pow_pos 925
      generalize 2 ^ 925 = p at *
      exact ⟨fun h => Nat.le_of_mul_le_mul_right h hp, fun h => Nat.mul_le_mul_right _ h⟩
    · rw [hy] at iy
      have := inf_iff64.mp iy
      have := inf_iff32.mp hy
      omega
  · rw [hx] at ix
    have b1 := inf_iff64.mp ix
    have b2 := inf_iff32.mp hx
    cases hy : isInf32 y
    · rw [hy] at iy
      have := inf_not64.mp iy
      have := inf_not32.mp hy
      omega
    · rw [hy] at iy
      have := inf_iff64.mp iy
      have := inf_iff32.mp hy
      omega
theorem mag_widen_zero (x : Nat) : mag64 (widen x) = 0 ↔ mag32 x = 0 := by
  rw [← zero_iff64, ← zero_iff32, widen_isZero]
theorem sk_ord {a b : Bool} {m n m' n' : Nat} (h1 : m ≤ n ↔ m' ≤ n') (h2 : n ≤ m ↔ n' ≤ m') (z1 : m = 0 ↔ m' = 0) (z2 : n = 0 ↔ n' = 0) : ordI (sk a m) (sk b n) = ordI (sk a m') (sk b n') := by
  have k1 : sk a m < sk b n ↔ sk a m' < sk b n' := by
    cases a <;> cases b <;> simp only [sk, Bool.false_eq_true, if_false, if_true] <;> omega
  have k2 : sk a m = sk b n ↔ sk a m' = sk b n' := by
    cases a <;> cases b <;> simp only [sk, Bool.false_eq_true, if_false, if_true] <;> omega
  simp only [ordI, k1, k2]
theorem widen_ord {x y : Nat} (nx : isNaN32 x = false) (ny : isNaN32 y = false) : ordI (key64 (widen x)) (key64 (widen y)) = ordI (key32 x) (key32 y) := by
  unfold key64 key32
  rw [widen_neg nx, widen_neg ny]
  exact sk_ord (mag_widen_le nx ny) (mag_widen_le ny nx) (mag_widen_zero x) (mag_widen_zero y)

/-- what is narrowed -/
theorem narrow_parts {x : Nat} (n : isNaN64 x = false) : neg32 (narrow x) = neg64 x ∧ mag32 (narrow x) = if isInf64 x then 2139095040 else min (rn 23 (val64 x) (2 ^ 925)) 2139095040 := by
  cases hi : isInf64 x
  · rw [narrow_fin (fin_of64 n hi), neg_rd32, mag_rd32]
    exact ⟨rfl, rfl⟩
  · rw [narrow_inf hi, neg_sgn32 _ (by omega), mag_sgn32 _ (by omega)]
    exact ⟨rfl, rfl⟩
theorem narrow_nnan {x : Nat} (n : isNaN64 x = false) : isNaN32 (narrow x) = false := by
  refine nan_not32.mpr ?_
  rw [(narrow_parts n).2]
  split
  · omega
  · exact Nat.min_le_right _ _
theorem mag_narrow_le {x y : Nat} (nx : isNaN64 x = false) (ny : isNaN64 y = false) (h : mag64 x ≤ mag64 y) : mag32 (narrow x) ≤ mag32 (narrow y) := by
  have a1 := nan_not64.mp nx
  have a2 := nan_not64.mp ny
  rw [(narrow_parts nx).2, (narrow_parts ny).2]
  cases hy : isInf64 y
  · have b2 := inf_not64.mp hy
    have hx : isInf64 x = false := inf_not64.mpr (by omega)
    rw [hx]
    simp only [Bool.false_eq_true, if_false]
    have hv : val64 x ≤ val64 y := val_le 52 h
    have hp := two_pow_pos 925
    generalize 2 ^ 925 = p at *
    have := rn_mono (F := 23) (by omega) hp hp (Nat.mul_le_mul_right p hv)
    omega
  · simp only [if_true]
    split
    · omega
    · exact Nat.min_le_right _ _
theorem mag_narrow_zero {x : Nat} (n : isNaN64 x = false) (h : mag64 x = 0) : mag32 (narrow x) = 0 := by
  rw [(narrow_parts n).2]
  have hi : isInf64 x = false := inf_not64.mpr (by omega)
  have hv : val64 x = 0 := by unfold val64; rw [h, val_zero]
  rw [hi, hv]
  simp only [Bool.false_eq_true, if_false]
  rw [rn_zero (two_pow_pos 925), Nat.zero_min]
theorem sk_mono {a b : Bool} {m n m' n' : Nat} (h1 : m ≤ n → m' ≤ n') (h2 : n ≤ m → n' ≤ m') (z1 : m = 0 → m' = 0) (z2 : n = 0 → n' = 0) (h : sk a m ≤ sk b n) : sk a m' ≤ sk b n' := by
  cases a <;> cases b <;> simp only [sk, Bool.false_eq_true, if_false, if_true] at h ⊢ <;> omega
theorem narrow_mono {x y : Nat} (nx : isNaN64 x = false) (ny : isNaN64 y = false) (h : key64 x ≤ key64 y) : key32 (narrow x) ≤ key32 (narrow y) := by
  unfold key64 at h
  unfold key32
  rw [(narrow_parts nx).1, (narrow_parts ny).1]
  exact sk_mono (mag_narrow_le nx ny) (mag_narrow_le ny nx) (mag_narrow_zero nx) (mag_narrow_zero ny) h
theorem narrow_one : narrow 4607182418800017408 = 1065353216 := by
  have e : widen 1065353216 = 4607182418800017408 := by
    obtain ⟨h1, h2, h3⟩ := widen_fin (x := 1065353216) (by decide)
    have hn := widen_neg (x := 1065353216) (by decide)
    rw [val_one32] at h3
    have h4 : val64 4607182418800017408 = 2 ^ 149 * 2 ^ 925 := by rw [val_one64, pow_cat (a := 149) (b := 925) (c := 1074) rfl]
    refine bits_eq64 ?_ (by decide) (by rw [hn]; decide) (val_inj 52 (h3.trans h4.symm))
    unfold widen
    split
    · decide
    · split
      · exact sgn_lt64 _ (by omega)
      · exact rd_lt64 _ _ _
  rw [← e]
  exact narrow_widen (by decide) (by decide)
end Go.Proofs.Ytpjanmahbimhkaa.SF
