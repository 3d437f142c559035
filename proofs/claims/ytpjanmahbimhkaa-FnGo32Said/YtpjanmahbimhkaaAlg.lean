/-
  Plain mathematics: the laws of sums, products and quotients of floats.
-/
import Derived.Test.YtpjanmahbimhkaaRn
namespace Go.Proofs.Ytpjanmahbimhkaa.SF
open Go.RowKit
set_option linter.unusedVariables false

theorem add_def64 (x y : Nat) : add64 x y = if isNaN64 x || isNaN64 y || (isInf64 x && isInf64 y && decide (x ≠ y)) then 9221120237041090560 else if isInf64 x then x else if isInf64 y then y else addf64 x y := rfl
theorem nq_nan64 : isNaN64 9221120237041090560 = true := by decide
theorem flip_flip64 {x : Nat} (hx : x < 18446744073709551616) : flip64 (flip64 x) = x := by
  unfold flip64
  rw [neg_sgn64 _ (mag_lt64 x), mag_sgn64 _ (mag_lt64 x), Bool.not_not, sgn_mag64 hx]
theorem flip_ne64 (x : Nat) : x ≠ flip64 x := by
  intro h
  have h1 := neg_flip64 x
  rw [← h] at h1
  cases hn : neg64 x <;> rw [hn] at h1 <;> simp at h1
theorem add_comm64 (x y : Nat) : add64 x y = add64 y x := by
  rw [add_def64, add_def64]
  by_cases hxy : x = y
  · rw [hxy]
  · have hyx : ¬ y = x := fun h => hxy h.symm
    cases isNaN64 x <;> cases isNaN64 y <;> cases isInf64 x <;> cases isInf64 y <;> simp [hxy, hyx, addf_comm64 x y]
theorem mul_comm64 (x y : Nat) : mul64 x y = mul64 y x := by
  unfold mul64
  rw [show (neg64 y != neg64 x) = (neg64 x != neg64 y) by cases neg64 x <;> cases neg64 y <;> rfl, Nat.mul_comm (val64 y)]
  cases isNaN64 x <;> cases isNaN64 y <;> cases isInf64 x <;> cases isInf64 y <;> cases isZero64 x <;> cases isZero64 y <;> rfl
/-- sums by the kinds of both floats -/
theorem add_nl64 {x y : Nat} (h : isNaN64 x = true) : add64 x y = 9221120237041090560 := by rw [add_def64, h]; rfl
theorem add_nr64 {x y : Nat} (h : isNaN64 y = true) : add64 x y = 9221120237041090560 := by rw [add_comm64]; exact add_nl64 h
theorem add_il64 {x y : Nat} (nx : isNaN64 x = false) (ny : isNaN64 y = false) (h : isInf64 x = true) (h2 : isInf64 y = false ∨ x = y) : add64 x y = x := by
  rw [add_def64, nx, ny, h]
  rcases h2 with h2 | h2
  · rw [h2]; simp
  · simp [h2]
theorem add_ir64 {x y : Nat} (nx : isNaN64 x = false) (ny : isNaN64 y = false) (h : isInf64 y = true) (h2 : isInf64 x = false ∨ x = y) : add64 x y = y := by
  rw [add_comm64]; exact add_il64 ny nx h (by rcases h2 with h2 | h2; exact .inl h2; exact .inr h2.symm)
theorem add_ii64 {x y : Nat} (ix : isInf64 x = true) (iy : isInf64 y = true) (h : x ≠ y) : add64 x y = 9221120237041090560 := by rw [add_def64, ix, iy]; simp [h]
theorem add_ff64 {x y : Nat} (hx : fin64 x = true) (hy : fin64 y = true) : add64 x y = addf64 x y :=
  add_fin64 (fin_nan64 hx).1 (fin_nan64 hx).2 (fin_nan64 hy).1 (fin_nan64 hy).2
/-- a sum that is no NaN: its operands -/
theorem add_ok64 {x y : Nat} (h : isNaN64 (add64 x y) = false) : isNaN64 x = false ∧ isNaN64 y = false ∧ (isInf64 x = true → isInf64 y = true → x = y) := by
  have hq := nq_nan64
  refine ⟨?_, ?_, fun ix iy => ?_⟩
  · cases hn : isNaN64 x
    · rfl
    · rw [add_nl64 hn, hq] at h; cases h
  · cases hn : isNaN64 y
    · rfl
    · rw [add_nr64 hn, hq] at h; cases h
  · by_cases he : x = y
    · exact he
    · rw [add_ii64 ix iy he, hq] at h; cases h

-- opposite, neutral
theorem add_flip_fin64 {x : Nat} (h : fin64 x = true) : add64 x (flip64 x) = 0 := by
  rw [add_ff64 h (by rw [fin_flip64]; exact h)]
  unfold addf64
  rw [sv_flip64, neg_flip64, if_pos (by omega)]
  cases neg64 x <;> rfl
theorem add_flip_not64 {x : Nat} (h : fin64 x = false) : isNaN64 (add64 x (flip64 x)) = true := by
  have hf := fin_not64.mp h
  cases hn : isNaN64 x
  · have h2 := nan_not64.mp hn
    have hi : isInf64 x = true := inf_iff64.mpr (by omega)
    rw [add_ii64 hi (by rw [isInf_flip64]; exact hi) (flip_ne64 x)]; exact nq_nan64
  · rw [add_nl64 hn]; exact nq_nan64
theorem kz64 : isNaN64 9223372036854775808 = false ∧ isInf64 9223372036854775808 = false ∧ mag64 9223372036854775808 = 0 ∧ neg64 9223372036854775808 = true ∧ fin64 9223372036854775808 = true := by decide
theorem add_nz64 {x : Nat} (hx : x < 18446744073709551616) (h : isNaN64 x = false) : add64 x 9223372036854775808 = x := by
  obtain ⟨k1, k2, k3, k4, k5⟩ := kz64
  cases hi : isInf64 x
  · have hf := fin_of64 h hi
    rw [add_ff64 hf k5]
    rcases Nat.eq_zero_or_pos (mag64 x) with h0 | h0
    · rw [addf_zz64 h0 k3, k4, Bool.and_true]
      have := sgn_mag64 hx
      rw [h0] at this
      rw [← this]
      unfold sgn64
      cases neg64 x <;> decide
    · exact addf_zr64 hx k3 h0 (fin_iff64.mp hf)
  · exact add_il64 h k1 hi (.inl k2)
theorem val_one64 : val64 4607182418800017408 = 2 ^ 1074 := by
  have e : mag64 4607182418800017408 = (1022 + 1) * 2 ^ 52 := by decide
  exact (congrArg (val 52) e).trans (val_topL (F := 52) (T := 1022) (L := 1074) rfl)
theorem val_two64 : val64 4611686018427387904 = 2 ^ 1075 := by
  have e : mag64 4611686018427387904 = (1023 + 1) * 2 ^ 52 := by decide
  exact (congrArg (val 52) e).trans (val_topL (F := 52) (T := 1023) (L := 1075) rfl)
theorem val_half64 : val64 4602678819172646912 = 2 ^ 1073 := by
  have e : mag64 4602678819172646912 = (1021 + 1) * 2 ^ 52 := by decide
  exact (congrArg (val 52) e).trans (val_topL (F := 52) (T := 1021) (L := 1073) rfl)
theorem k164 : isNaN64 4607182418800017408 = false ∧ isInf64 4607182418800017408 = false ∧ isZero64 4607182418800017408 = false ∧ neg64 4607182418800017408 = false ∧ fin64 4607182418800017408 = true := by decide
theorem k264 : isNaN64 4611686018427387904 = false ∧ isInf64 4611686018427387904 = false ∧ isZero64 4611686018427387904 = false ∧ neg64 4611686018427387904 = false ∧ fin64 4611686018427387904 = true := by decide
theorem kh64 : isNaN64 4602678819172646912 = false ∧ isInf64 4602678819172646912 = false ∧ isZero64 4602678819172646912 = false ∧ neg64 4602678819172646912 = false ∧ fin64 4602678819172646912 = true := by decide
theorem bne_false64 (a : Bool) : (a != false) = a := by cases a <;> rfl
theorem sgn_inf64 {x : Nat} (hx : x < 18446744073709551616) (h : isInf64 x = true) : sgn64 (neg64 x) 9218868437227405312 = x := by
  have := sgn_mag64 hx
  rw [inf_iff64.mp h] at this; exact this
theorem mul_nl64 {x y : Nat} (h : isNaN64 x = true) : mul64 x y = 9221120237041090560 := by unfold mul64; rw [h]; exact if_pos (by simp)
theorem div_nl64 {x y : Nat} (h : isNaN64 x = true) : div64 x y = 9221120237041090560 := by unfold div64; rw [h]; exact if_pos (by simp)
/-- a factor, a divisor that is an ordinary number -/
theorem mul_k64 {x y : Nat} (hx : isNaN64 x = false) (a : isNaN64 y = false) (b : isInf64 y = false) (c : isZero64 y = false) : mul64 x y = if isInf64 x then sgn64 (neg64 x != neg64 y) 9218868437227405312 else rd64 (neg64 x != neg64 y) (val64 x * val64 y) (2 ^ 1074) := by
  unfold mul64; rw [hx, a, b, c]
  generalize 2 ^ 1074 = p
  cases isInf64 x <;> cases isZero64 x <;> simp
theorem div_k64 {x y : Nat} (hx : isNaN64 x = false) (a : isNaN64 y = false) (b : isInf64 y = false) (c : isZero64 y = false) : div64 x y = if isInf64 x then sgn64 (neg64 x != neg64 y) 9218868437227405312 else rd64 (neg64 x != neg64 y) (val64 x * 2 ^ 1074) (val64 y) := by
  unfold div64; rw [hx, a, b, c]
  generalize 2 ^ 1074 = p
  cases isInf64 x <;> cases isZero64 x <;> simp
theorem mul_one64 {x : Nat} (hx : x < 18446744073709551616) (h : isNaN64 x = false) : mul64 x 4607182418800017408 = x := by
  obtain ⟨a, b, c, d, e⟩ := k164
  rw [mul_k64 h a b c, d, bne_false64, val_one64]
  cases hi : isInf64 x
  · have hf := fin_iff64.mp (fin_of64 h hi)
    rw [if_neg (by decide), rd_mulval64 (neg64 x) (two_pow_pos 1074) (by omega), sgn_mag64 hx]
  · rw [if_pos rfl, sgn_inf64 hx hi]
theorem div_one64 {x : Nat} (hx : x < 18446744073709551616) (h : isNaN64 x = false) : div64 x 4607182418800017408 = x := by
  obtain ⟨a, b, c, d, e⟩ := k164
  rw [div_k64 h a b c, d, bne_false64, val_one64]
  cases hi : isInf64 x
  · have hf := fin_iff64.mp (fin_of64 h hi)
    rw [if_neg (by decide), rd_mulval64 (neg64 x) (two_pow_pos 1074) (by omega), sgn_mag64 hx]
  · rw [if_pos rfl, sgn_inf64 hx hi]
theorem mul_one_two64 : mul64 4607182418800017408 4611686018427387904 = 4611686018427387904 := by rw [mul_comm64]; exact mul_one64 (by decide) (by decide)
theorem mul_one_half64 : mul64 4607182418800017408 4602678819172646912 = 4602678819172646912 := by rw [mul_comm64]; exact mul_one64 (by decide) (by decide)

-- twice, half
theorem pow_mul_two64 (n : Nat) : 2 ^ n + 2 ^ n = 2 ^ (n + 1) := by rw [pow_succ2]; omega
theorem double64 {x : Nat} (hx : x < 18446744073709551616) : add64 x x = mul64 x 4611686018427387904 := by
  obtain ⟨a, b, c, d, e⟩ := k264
  cases hn : isNaN64 x
  · rw [mul_k64 hn a b c, d, bne_false64, val_two64]
    cases hi : isInf64 x
    · have hf := fin_of64 hn hi
      rw [if_neg (by decide), add_ff64 hf hf]
      rcases Nat.eq_zero_or_pos (mag64 x) with h0 | h0
      · have hv := val_zero64 h0
        have e0 : ∀ p, val64 x * p = 0 := fun p => by rw [hv, Nat.zero_mul]
        rw [addf_zz64 h0 h0, e0, rd_zero64 _ (two_pow_pos 1074)]
        unfold sgn64
        cases neg64 x <;> rfl
      · rw [addf_same64 rfl (val_pos64 h0)]
        have e := pow_succ2 1074
        have hp0 := two_pow_pos 1074
        rw [show 1074 + 1 = 1075 from rfl] at e
        rw [e]
        generalize 2 ^ 1074 = p at hp0
        refine rd_congr64 _ (by omega) hp0 ?_
        rw [Nat.mul_one, Nat.mul_left_comm, Nat.add_mul]; omega
    · rw [if_pos rfl, add_il64 hn hn hi (.inr rfl), sgn_inf64 hx hi]
  · rw [add_nl64 hn, mul_nl64 hn]
theorem half64 {x : Nat} (hx : x < 18446744073709551616) : mul64 x 4602678819172646912 = div64 x 4611686018427387904 := by
  obtain ⟨a, b, c, d, e⟩ := k264
  obtain ⟨a', b', c', d', e'⟩ := kh64
  cases hn : isNaN64 x
  · rw [mul_k64 hn a' b' c', div_k64 hn a b c, d, d', bne_false64, val_two64, val_half64]
    cases hi : isInf64 x
    · rw [if_neg (by decide), if_neg (by decide)]
      exact rd_congr64 _ (two_pow_pos 1074) (two_pow_pos 1075) (pow_swap (v := val64 x) (a := 1073) (b := 1075) (c := 1074) (d := 1074) rfl)
    · rw [if_pos rfl, if_pos rfl]
  · rw [mul_nl64 hn, div_nl64 hn]
theorem add_one_one64 : add64 4607182418800017408 4607182418800017408 = 4611686018427387904 := by
  rw [double64 (by decide), mul_one_two64]

-- signs
theorem bne_notl64 (a b : Bool) : ((!a) != b) = !(a != b) := by cases a <;> cases b <;> rfl
theorem bne_notr64 (a b : Bool) : (a != (!b)) = !(a != b) := by cases a <;> cases b <;> rfl
theorem mul_flipl64 {x y : Nat} (h : isNaN64 (mul64 x y) = false) : mul64 (flip64 x) y = flip64 (mul64 x y) := by
  unfold mul64 at h ⊢
  rw [isNaN_flip64, isInf_flip64, isZero_flip64, neg_flip64, val_flip64, bne_notl64]
  split
  · rename_i hc; rw [if_pos hc] at h; rw [nq_nan64] at h; cases h
  · split
    · rw [flip_sgn64 _ (by omega)]
    · rw [flip_rd64]
theorem mul_flipr64 {x y : Nat} (h : isNaN64 (mul64 x y) = false) : mul64 x (flip64 y) = flip64 (mul64 x y) := by
  rw [mul_comm64 x (flip64 y), mul_comm64 x y]; exact mul_flipl64 (by rw [mul_comm64]; exact h)
theorem div_flipl64 {x y : Nat} (h : isNaN64 (div64 x y) = false) : div64 (flip64 x) y = flip64 (div64 x y) := by
  unfold div64 at h ⊢
  rw [isNaN_flip64, isInf_flip64, isZero_flip64, neg_flip64, val_flip64, bne_notl64]
  split
  · rename_i hc; rw [if_pos hc] at h; rw [nq_nan64] at h; cases h
  · split
    · rw [flip_sgn64 _ (by omega)]
    · split
      · rw [flip_sgn64 _ (by omega)]
      · rw [flip_rd64]
theorem div_flipr64 {x y : Nat} (h : isNaN64 (div64 x y) = false) : div64 x (flip64 y) = flip64 (div64 x y) := by
  unfold div64 at h ⊢
  rw [isNaN_flip64, isInf_flip64, isZero_flip64, neg_flip64, val_flip64, bne_notr64]
  split
  · rename_i hc; rw [if_pos hc] at h; rw [nq_nan64] at h; cases h
  · split
    · rw [flip_sgn64 _ (by omega)]
    · split
      · rw [flip_sgn64 _ (by omega)]
      · rw [flip_rd64]
theorem addf_flip64 {x y : Nat} (h : sv64 x + sv64 y ≠ 0) : addf64 (flip64 x) (flip64 y) = flip64 (addf64 x y) := by
  have e : -sv64 x + -sv64 y = -(sv64 x + sv64 y) := by omega
  unfold addf64
  rw [sv_flip64, sv_flip64, e, if_neg (by omega), if_neg h, flip_rd64, Int.natAbs_neg]
  congr 1
  rcases Int.lt_or_le (sv64 x + sv64 y) 0 with h1 | h1
  · rw [decide_eq_true h1, decide_eq_false (show ¬ -(sv64 x + sv64 y) < 0 by omega)]; rfl
  · rw [decide_eq_false (show ¬ (sv64 x + sv64 y) < 0 by omega), decide_eq_true (show -(sv64 x + sv64 y) < 0 by omega)]; rfl
theorem addf_zero_sum64 {x y : Nat} (h : sv64 x + sv64 y = 0) : isZero64 (addf64 x y) = true := by
  unfold addf64; rw [if_pos h]; split <;> decide
theorem add_flip264 {x y : Nat} (h : isNaN64 (add64 x y) = false) (hz : isZero64 (add64 x y) = false) : add64 (flip64 x) (flip64 y) = flip64 (add64 x y) := by
  obtain ⟨nx, ny, hi⟩ := add_ok64 h
  have nx' : isNaN64 (flip64 x) = false := by rw [isNaN_flip64]; exact nx
  have ny' : isNaN64 (flip64 y) = false := by rw [isNaN_flip64]; exact ny
  cases ix : isInf64 x
  · cases iy : isInf64 y
    · have fx := fin_of64 nx ix
      have fy := fin_of64 ny iy
      have e := add_ff64 fx fy
      rw [e] at hz ⊢
      rw [add_ff64 (by rw [fin_flip64]; exact fx) (by rw [fin_flip64]; exact fy)]
      refine addf_flip64 fun h0 => ?_
      rw [addf_zero_sum64 h0] at hz; cases hz
    · rw [add_ir64 nx ny iy (.inl ix), add_ir64 nx' ny' (by rw [isInf_flip64]; exact iy) (.inl (by rw [isInf_flip64]; exact ix))]
  · cases iy : isInf64 y
    · rw [add_il64 nx ny ix (.inl iy), add_il64 nx' ny' (by rw [isInf_flip64]; exact ix) (.inl (by rw [isInf_flip64]; exact iy))]
    · have hxy := hi ix iy
      subst hxy
      rw [add_il64 nx ny ix (.inr rfl), add_il64 nx' ny' (by rw [isInf_flip64]; exact ix) (.inr rfl)]

-- order
theorem key_inf64 {x : Nat} (h : isInf64 x = true) : key64 x = sk (neg64 x) 9218868437227405312 := by unfold key64; rw [inf_iff64.mp h]
theorem add_mono64 {x y z : Nat} (hx : x < 18446744073709551616) (hy : y < 18446744073709551616) (hz : z < 18446744073709551616) (h : key64 x ≤ key64 y) (na : isNaN64 (add64 x z) = false) (nb : isNaN64 (add64 y z) = false) : key64 (add64 x z) ≤ key64 (add64 y z) := by
  obtain ⟨nx, nz, hxz⟩ := add_ok64 na
  obtain ⟨ny, _, hyz⟩ := add_ok64 nb
  cases iz : isInf64 z
  · have bda := key_bd64 na
    have bdb := key_bd64 nb
    cases ix : isInf64 x
    · cases iy : isInf64 y
      · rw [add_ff64 (fin_of64 nx ix) (fin_of64 nz iz), add_ff64 (fin_of64 ny iy) (fin_of64 nz iz), key_addf64, key_addf64]
        have := key_sv_le64.mp h
        exact rk_mono64 (by omega)
      · have e := add_il64 ny nz iy (.inl iz)
        rw [e] at bdb ⊢
        have hk := key_inf64 iy
        have hb := key_bd64 nx
        have hm := inf_not64.mp ix
        have hm2 := nan_not64.mp nx
        cases hn : neg64 y
        · rw [hn] at hk; simp only [sk, Bool.false_eq_true, if_false] at hk; omega
        · rw [hn] at hk; simp only [sk, if_true] at hk
          exfalso
          have : key64 x = -9218868437227405312 := by omega
          unfold key64 sk at this
          cases hx' : neg64 x <;> rw [hx'] at this <;> simp at this <;> omega
    · have e := add_il64 nx nz ix (.inl iz)
      rw [e] at bda ⊢
      have hk := key_inf64 ix
      cases hn : neg64 x
      · rw [hn] at hk; simp only [sk, Bool.false_eq_true, if_false] at hk
        have hb := key_bd64 ny
        have hky : key64 y = 9218868437227405312 := by omega
        have iy : isInf64 y = true := by
          apply inf_iff64.mpr
          unfold key64 sk at hky
          cases hy' : neg64 y <;> rw [hy'] at hky <;> simp at hky <;> omega
        rw [add_il64 ny nz iy (.inl iz)]
        exact h
      · rw [hn] at hk; simp only [sk, if_true] at hk; omega
  · have e1 : add64 x z = z := by
      cases ix : isInf64 x
      · exact add_ir64 nx nz iz (.inl ix)
      · exact add_ir64 nx nz iz (.inr (hxz ix iz))
    have e2 : add64 y z = z := by
      cases iy : isInf64 y
      · exact add_ir64 ny nz iz (.inl iy)
      · exact add_ir64 ny nz iz (.inr (hyz iy iz))
    rw [e1, e2]; exact Int.le_refl _
theorem mul_ok64 {x y : Nat} (h : isNaN64 (mul64 x y) = false) : isNaN64 x = false ∧ isNaN64 y = false ∧ ¬ (isInf64 x = true ∧ isZero64 y = true) ∧ ¬ (isZero64 x = true ∧ isInf64 y = true) := by
  have hq := nq_nan64
  unfold mul64 at h
  have hc : ¬ (isNaN64 x || isNaN64 y || (isInf64 x && isZero64 y) || (isZero64 x && isInf64 y)) = true := by
    intro hc
    rw [if_pos hc, hq] at h; cases h
  simp only [Bool.or_eq_true, Bool.and_eq_true, not_or] at hc
  obtain ⟨⟨⟨a, b⟩, c⟩, d⟩ := hc
  exact ⟨by simpa using a, by simpa using b, c, d⟩
/-- the place of a product with a float that is not negative -/
noncomputable def pk64 (a : Bool) (v z : Nat) : Int := sk a (min (rn 52 (v * z) (2 ^ 1074)) 9218868437227405312)
theorem key_mulf64 {x z : Nat} (fx : fin64 x = true) (fz : fin64 z = true) (hz : neg64 z = false) : key64 (mul64 x z) = pk64 (neg64 x) (val64 x) (val64 z) := by
  have a := fin_nan64 fx
  have b := fin_nan64 fz
  have e : mul64 x z = rd64 (neg64 x != neg64 z) (val64 x * val64 z) (2 ^ 1074) := by
    unfold mul64; rw [a.1, a.2, b.1, b.2]
    cases isZero64 x <;> cases isZero64 z <;> rfl
  rw [e, key_rd64, hz, bne_false64]; rfl
theorem pk_mono64 {a b : Bool} {v u z : Nat} (h : sk a v ≤ sk b u) : pk64 a v z ≤ pk64 b u z := by
  unfold pk64
  have h1 := @rn_mono 52 (by omega) (v * z) (2 ^ 1074) (u * z) (2 ^ 1074) (two_pow_pos 1074) (two_pow_pos 1074)
  have h2 := @rn_mono 52 (by omega) (u * z) (2 ^ 1074) (v * z) (2 ^ 1074) (two_pow_pos 1074) (two_pow_pos 1074)
  have hl1 : v ≤ u → v * z * 2 ^ 1074 ≤ u * z * 2 ^ 1074 := fun h => Nat.mul_le_mul_right _ (Nat.mul_le_mul_right _ h)
  have hl2 : u ≤ v → u * z * 2 ^ 1074 ≤ v * z * 2 ^ 1074 := fun h => Nat.mul_le_mul_right _ (Nat.mul_le_mul_right _ h)
  cases a <;> cases b <;> simp only [sk, Bool.false_eq_true, if_false, if_true] at h ⊢
  · have := h1 (hl1 (by omega)); omega
  · have hv : v = 0 := by omega
    have hu : u = 0 := by omega
    subst hv hu
    generalize hp : 2 ^ 1074 = p
    have hp0 : 0 < p := by rw [← hp]; exact two_pow_pos 1074
    rw [Nat.zero_mul, rn_zero hp0]; simp
  · omega
  · have := h2 (hl2 (by omega)); omega
theorem mul_inf64 {x z : Nat} (h : isNaN64 (mul64 x z) = false) (hi : isInf64 x = true ∨ isInf64 z = true) : mul64 x z = sgn64 (neg64 x != neg64 z) 9218868437227405312 := by
  obtain ⟨a, b, c, d⟩ := mul_ok64 h
  unfold mul64
  rw [a, b]
  cases ix : isInf64 x <;> cases iz : isInf64 z <;> cases zx : isZero64 x <;> cases zz : isZero64 z <;> simp [ix, iz, zx, zz] at c d hi ⊢
theorem mul_mono64 {x y z : Nat} (hz : neg64 z = false) (h : key64 x ≤ key64 y) (na : isNaN64 (mul64 x z) = false) (nb : isNaN64 (mul64 y z) = false) : key64 (mul64 x z) ≤ key64 (mul64 y z) := by
  obtain ⟨nx, nz, hx1, hx2⟩ := mul_ok64 na
  obtain ⟨ny, _, hy1, hy2⟩ := mul_ok64 nb
  have bda := key_bd64 na
  have bdb := key_bd64 nb
  have kx := key_bd64 nx
  have ky := key_bd64 ny
  -- an infinite factor
  have inf : ∀ u : Nat, isNaN64 (mul64 u z) = false → (isInf64 u = true ∨ isInf64 z = true) → key64 (mul64 u z) = sk (neg64 u) 9218868437227405312 := by
    intro u hu hi
    rw [mul_inf64 hu hi, hz, bne_false64, key_sgn64 _ (by omega)]
  cases iz : isInf64 z
  · cases ix : isInf64 x
    · cases iy : isInf64 y
      · rw [key_mulf64 (fin_of64 nx ix) (fin_of64 nz iz) hz, key_mulf64 (fin_of64 ny iy) (fin_of64 nz iz) hz]
        exact pk_mono64 (key_sv_le64.mp h)
      · have e := inf y nb (.inl iy)
        have hk := key_inf64 iy
        rw [e, ← hk]
        have hm := inf_not64.mp ix
        cases hn : neg64 y
        · rw [hn] at hk; simp only [sk, Bool.false_eq_true, if_false] at hk; omega
        · rw [hn] at hk; simp only [sk, if_true] at hk
          exfalso
          have : key64 x = -9218868437227405312 := by omega
          unfold key64 sk at this
          cases hx' : neg64 x <;> rw [hx'] at this <;> simp at this <;> omega
    · have e := inf x na (.inl ix)
      have hk := key_inf64 ix
      rw [e, ← hk]
      cases hn : neg64 x
      · rw [hn] at hk; simp only [sk, Bool.false_eq_true, if_false] at hk
        have hky : key64 y = 9218868437227405312 := by omega
        have iy : isInf64 y = true := by
          apply inf_iff64.mpr
          unfold key64 sk at hky
          cases hy' : neg64 y <;> rw [hy'] at hky <;> simp at hky <;> omega
        rw [inf y nb (.inl iy), ← key_inf64 iy]
        exact h
      · rw [hn] at hk; simp only [sk, if_true] at hk; omega
  · have zx : isZero64 x = false := by cases hh : isZero64 x; rfl; exact absurd ⟨hh, iz⟩ hx2
    have zy : isZero64 y = false := by cases hh : isZero64 y; rfl; exact absurd ⟨hh, iz⟩ hy2
    have mx := zero_not64.mp zx
    have my := zero_not64.mp zy
    rw [inf x na (.inr iz), inf y nb (.inr iz)]
    unfold key64 sk at h
    cases hn : neg64 x <;> cases hm : neg64 y <;> rw [hn, hm] at h <;> simp only [sk, Bool.false_eq_true, if_false, if_true] at h ⊢ <;> omega
theorem add_def32 (x y : Nat) : add32 x y = if isNaN32 x || isNaN32 y || (isInf32 x && isInf32 y && decide (x ≠ y)) then 2143289344 else if isInf32 x then x else if isInf32 y then y else addf32 x y := rfl
theorem nq_nan32 : isNaN32 2143289344 = true := by decide
theorem flip_flip32 {x : Nat} (hx : x < 4294967296) : flip32 (flip32 x) = x := by
  unfold flip32
  rw [neg_sgn32 _ (mag_lt32 x), mag_sgn32 _ (mag_lt32 x), Bool.not_not, sgn_mag32 hx]
theorem flip_ne32 (x : Nat) : x ≠ flip32 x := by
  intro h
  have h1 := neg_flip32 x
  rw [← h] at h1
  cases hn : neg32 x <;> rw [hn] at h1 <;> simp at h1
theorem add_comm32 (x y : Nat) : add32 x y = add32 y x := by
  rw [add_def32, add_def32]
  by_cases hxy : x = y
  · rw [hxy]
  · have hyx : ¬ y = x := fun h => hxy h.symm
    cases isNaN32 x <;> cases isNaN32 y <;> cases isInf32 x <;> cases isInf32 y <;> simp [hxy, hyx, addf_comm32 x y]
theorem mul_comm32 (x y : Nat) : mul32 x y = mul32 y x := by
  unfold mul32
  rw [show (neg32 y != neg32 x) = (neg32 x != neg32 y) by cases neg32 x <;> cases neg32 y <;> rfl, Nat.mul_comm (val32 y)]
  cases isNaN32 x <;> cases isNaN32 y <;> cases isInf32 x <;> cases isInf32 y <;> cases isZero32 x <;> cases isZero32 y <;> rfl
/-- sums by the kinds of both floats -/
theorem add_nl32 {x y : Nat} (h : isNaN32 x = true) : add32 x y = 2143289344 := by rw [add_def32, h]; rfl
theorem add_nr32 {x y : Nat} (h : isNaN32 y = true) : add32 x y = 2143289344 := by rw [add_comm32]; exact add_nl32 h
theorem add_il32 {x y : Nat} (nx : isNaN32 x = false) (ny : isNaN32 y = false) (h : isInf32 x = true) (h2 : isInf32 y = false ∨ x = y) : add32 x y = x := by
  rw [add_def32, nx, ny, h]
  rcases h2 with h2 | h2
  · rw [h2]; simp
  · simp [h2]
theorem add_ir32 {x y : Nat} (nx : isNaN32 x = false) (ny : isNaN32 y = false) (h : isInf32 y = true) (h2 : isInf32 x = false ∨ x = y) : add32 x y = y := by
  rw [add_comm32]; exact add_il32 ny nx h (by rcases h2 with h2 | h2; exact .inl h2; exact .inr h2.symm)
theorem add_ii32 {x y : Nat} (ix : isInf32 x = true) (iy : isInf32 y = true) (h : x ≠ y) : add32 x y = 2143289344 := by rw [add_def32, ix, iy]; simp [h]
theorem add_ff32 {x y : Nat} (hx : fin32 x = true) (hy : fin32 y = true) : add32 x y = addf32 x y :=
  add_fin32 (fin_nan32 hx).1 (fin_nan32 hx).2 (fin_nan32 hy).1 (fin_nan32 hy).2
/-- a sum that is no NaN: its operands -/
theorem add_ok32 {x y : Nat} (h : isNaN32 (add32 x y) = false) : isNaN32 x = false ∧ isNaN32 y = false ∧ (isInf32 x = true → isInf32 y = true → x = y) := by
  have hq := nq_nan32
  refine ⟨?_, ?_, fun ix iy => ?_⟩
  · cases hn : isNaN32 x
    · rfl
    · rw [add_nl32 hn, hq] at h; cases h
  · cases hn : isNaN32 y
    · rfl
    · rw [add_nr32 hn, hq] at h; cases h
  · by_cases he : x = y
    · exact he
    · rw [add_ii32 ix iy he, hq] at h; cases h

-- opposite, neutral
theorem add_flip_fin32 {x : Nat} (h : fin32 x = true) : add32 x (flip32 x) = 0 := by
  rw [add_ff32 h (by rw [fin_flip32]; exact h)]
  unfold addf32
  rw [sv_flip32, neg_flip32, if_pos (by omega)]
  cases neg32 x <;> rfl
theorem add_flip_not32 {x : Nat} (h : fin32 x = false) : isNaN32 (add32 x (flip32 x)) = true := by
  have hf := fin_not32.mp h
  cases hn : isNaN32 x
  · have h2 := nan_not32.mp hn
    have hi : isInf32 x = true := inf_iff32.mpr (by omega)
    rw [add_ii32 hi (by rw [isInf_flip32]; exact hi) (flip_ne32 x)]; exact nq_nan32
  · rw [add_nl32 hn]; exact nq_nan32
theorem kz32 : isNaN32 2147483648 = false ∧ isInf32 2147483648 = false ∧ mag32 2147483648 = 0 ∧ neg32 2147483648 = true ∧ fin32 2147483648 = true := by decide
theorem add_nz32 {x : Nat} (hx : x < 4294967296) (h : isNaN32 x = false) : add32 x 2147483648 = x := by
  obtain ⟨k1, k2, k3, k4, k5⟩ := kz32
  cases hi : isInf32 x
  · have hf := fin_of32 h hi
    rw [add_ff32 hf k5]
    rcases Nat.eq_zero_or_pos (mag32 x) with h0 | h0
    · rw [addf_zz32 h0 k3, k4, Bool.and_true]
      have := sgn_mag32 hx
      rw [h0] at this
      rw [← this]
      unfold sgn32
      cases neg32 x <;> decide
    · exact addf_zr32 hx k3 h0 (fin_iff32.mp hf)
  · exact add_il32 h k1 hi (.inl k2)
theorem val_one32 : val32 1065353216 = 2 ^ 149 := by
  have e : mag32 1065353216 = (126 + 1) * 2 ^ 23 := by decide
  exact (congrArg (val 23) e).trans (val_topL (F := 23) (T := 126) (L := 149) rfl)
theorem val_two32 : val32 1073741824 = 2 ^ 150 := by
  have e : mag32 1073741824 = (127 + 1) * 2 ^ 23 := by decide
  exact (congrArg (val 23) e).trans (val_topL (F := 23) (T := 127) (L := 150) rfl)
theorem val_half32 : val32 1056964608 = 2 ^ 148 := by
  have e : mag32 1056964608 = (125 + 1) * 2 ^ 23 := by decide
  exact (congrArg (val 23) e).trans (val_topL (F := 23) (T := 125) (L := 148) rfl)
theorem k132 : isNaN32 1065353216 = false ∧ isInf32 1065353216 = false ∧ isZero32 1065353216 = false ∧ neg32 1065353216 = false ∧ fin32 1065353216 = true := by decide
theorem k232 : isNaN32 1073741824 = false ∧ isInf32 1073741824 = false ∧ isZero32 1073741824 = false ∧ neg32 1073741824 = false ∧ fin32 1073741824 = true := by decide
theorem kh32 : isNaN32 1056964608 = false ∧ isInf32 1056964608 = false ∧ isZero32 1056964608 = false ∧ neg32 1056964608 = false ∧ fin32 1056964608 = true := by decide
theorem bne_false32 (a : Bool) : (a != false) = a := by cases a <;> rfl
theorem sgn_inf32 {x : Nat} (hx : x < 4294967296) (h : isInf32 x = true) : sgn32 (neg32 x) 2139095040 = x := by
  have := sgn_mag32 hx
  rw [inf_iff32.mp h] at this; exact this
theorem mul_nl32 {x y : Nat} (h : isNaN32 x = true) : mul32 x y = 2143289344 := by unfold mul32; rw [h]; exact if_pos (by simp)
theorem div_nl32 {x y : Nat} (h : isNaN32 x = true) : div32 x y = 2143289344 := by unfold div32; rw [h]; exact if_pos (by simp)
/-- a factor, a divisor that is an ordinary number -/
theorem mul_k32 {x y : Nat} (hx : isNaN32 x = false) (a : isNaN32 y = false) (b : isInf32 y = false) (c : isZero32 y = false) : mul32 x y = if isInf32 x then sgn32 (neg32 x != neg32 y) 2139095040 else rd32 (neg32 x != neg32 y) (val32 x * val32 y) (2 ^ 149) := by
  unfold mul32; rw [hx, a, b, c]
  generalize 2 ^ 149 = p
  cases isInf32 x <;> cases isZero32 x <;> simp
theorem div_k32 {x y : Nat} (hx : isNaN32 x = false) (a : isNaN32 y = false) (b : isInf32 y = false) (c : isZero32 y = false) : div32 x y = if isInf32 x then sgn32 (neg32 x != neg32 y) 2139095040 else rd32 (neg32 x != neg32 y) (val32 x * 2 ^ 149) (val32 y) := by
  unfold div32; rw [hx, a, b, c]
  generalize 2 ^ 149 = p
  cases isInf32 x <;> cases isZero32 x <;> simp
theorem mul_one32 {x : Nat} (hx : x < 4294967296) (h : isNaN32 x = false) : mul32 x 1065353216 = x := by
  obtain ⟨a, b, c, d, e⟩ := k132
  rw [mul_k32 h a b c, d, bne_false32, val_one32]
  cases hi : isInf32 x
  · have hf := fin_iff32.mp (fin_of32 h hi)
    rw [if_neg (by decide), rd_mulval32 (neg32 x) (two_pow_pos 149) (by omega), sgn_mag32 hx]
  · rw [if_pos rfl, sgn_inf32 hx hi]
theorem div_one32 {x : Nat} (hx : x < 4294967296) (h : isNaN32 x = false) : div32 x 1065353216 = x := by
  obtain ⟨a, b, c, d, e⟩ := k132
  rw [div_k32 h a b c, d, bne_false32, val_one32]
  cases hi : isInf32 x
  · have hf := fin_iff32.mp (fin_of32 h hi)
    rw [if_neg (by decide), rd_mulval32 (neg32 x) (two_pow_pos 149) (by omega), sgn_mag32 hx]
  · rw [if_pos rfl, sgn_inf32 hx hi]
theorem mul_one_two32 : mul32 1065353216 1073741824 = 1073741824 := by rw [mul_comm32]; exact mul_one32 (by decide) (by decide)
theorem mul_one_half32 : mul32 1065353216 1056964608 = 1056964608 := by rw [mul_comm32]; exact mul_one32 (by decide) (by decide)

-- twice, half
theorem pow_mul_two32 (n : Nat) : 2 ^ n + 2 ^ n = 2 ^ (n + 1) := by rw [pow_succ2]; omega
theorem double32 {x : Nat} (hx : x < 4294967296) : add32 x x = mul32 x 1073741824 := by
  obtain ⟨a, b, c, d, e⟩ := k232
  cases hn : isNaN32 x
  · rw [mul_k32 hn a b c, d, bne_false32, val_two32]
    cases hi : isInf32 x
    · have hf := fin_of32 hn hi
      rw [if_neg (by decide), add_ff32 hf hf]
      rcases Nat.eq_zero_or_pos (mag32 x) with h0 | h0
      · have hv := val_zero32 h0
        have e0 : ∀ p, val32 x * p = 0 := fun p => by rw [hv, Nat.zero_mul]
        rw [addf_zz32 h0 h0, e0, rd_zero32 _ (two_pow_pos 149)]
        unfold sgn32
        cases neg32 x <;> rfl
      · rw [addf_same32 rfl (val_pos32 h0)]
        have e := pow_succ2 149
        have hp0 := two_pow_pos 149
        rw [show 149 + 1 = 150 from rfl] at e
        rw [e]
        generalize 2 ^ 149 = p at hp0
        refine rd_congr32 _ (by omega) hp0 ?_
        rw [Nat.mul_one, Nat.mul_left_comm, Nat.add_mul]; omega
    · rw [if_pos rfl, add_il32 hn hn hi (.inr rfl), sgn_inf32 hx hi]
  · rw [add_nl32 hn, mul_nl32 hn]
theorem half32 {x : Nat} (hx : x < 4294967296) : mul32 x 1056964608 = div32 x 1073741824 := by
  obtain ⟨a, b, c, d, e⟩ := k232
  obtain ⟨a', b', c', d', e'⟩ := kh32
  cases hn : isNaN32 x
  · rw [mul_k32 hn a' b' c', div_k32 hn a b c, d, d', bne_false32, val_two32, val_half32]
    cases hi : isInf32 x
    · rw [if_neg (by decide), if_neg (by decide)]
      exact rd_congr32 _ (two_pow_pos 149) (two_pow_pos 150) (pow_swap (v := val32 x) (a := 148) (b := 150) (c := 149) (d := 149) rfl)
    · rw [if_pos rfl, if_pos rfl]
  · rw [mul_nl32 hn, div_nl32 hn]
theorem add_one_one32 : add32 1065353216 1065353216 = 1073741824 := by
  rw [double32 (by decide), mul_one_two32]

-- signs
theorem bne_notl32 (a b : Bool) : ((!a) != b) = !(a != b) := by cases a <;> cases b <;> rfl
theorem bne_notr32 (a b : Bool) : (a != (!b)) = !(a != b) := by cases a <;> cases b <;> rfl
theorem mul_flipl32 {x y : Nat} (h : isNaN32 (mul32 x y) = false) : mul32 (flip32 x) y = flip32 (mul32 x y) := by
  unfold mul32 at h ⊢
  rw [isNaN_flip32, isInf_flip32, isZero_flip32, neg_flip32, val_flip32, bne_notl32]
  split
  · rename_i hc; rw [if_pos hc] at h; rw [nq_nan32] at h; cases h
  · split
    · rw [flip_sgn32 _ (by omega)]
    · rw [flip_rd32]
theorem mul_flipr32 {x y : Nat} (h : isNaN32 (mul32 x y) = false) : mul32 x (flip32 y) = flip32 (mul32 x y) := by
  rw [mul_comm32 x (flip32 y), mul_comm32 x y]; exact mul_flipl32 (by rw [mul_comm32]; exact h)
theorem div_flipl32 {x y : Nat} (h : isNaN32 (div32 x y) = false) : div32 (flip32 x) y = flip32 (div32 x y) := by
  unfold div32 at h ⊢
  rw [isNaN_flip32, isInf_flip32, isZero_flip32, neg_flip32, val_flip32, bne_notl32]
  split
  · rename_i hc; rw [if_pos hc] at h; rw [nq_nan32] at h; cases h
  · split
    · rw [flip_sgn32 _ (by omega)]
    · split
      · rw [flip_sgn32 _ (by omega)]
      · rw [flip_rd32]
theorem div_flipr32 {x y : Nat} (h : isNaN32 (div32 x y) = false) : div32 x (flip32 y) = flip32 (div32 x y) := by
  unfold div32 at h ⊢
  rw [isNaN_flip32, isInf_flip32, isZero_flip32, neg_flip32, val_flip32, bne_notr32]
  split
  · rename_i hc; rw [if_pos hc] at h; rw [nq_nan32] at h; cases h
  · split
    · rw [flip_sgn32 _ (by omega)]
    · split
      · rw [flip_sgn32 _ (by omega)]
      · rw [flip_rd32]
theorem addf_flip32 {x y : Nat} (h : sv32 x + sv32 y ≠ 0) : addf32 (flip32 x) (flip32 y) = flip32 (addf32 x y) := by
  have e : -sv32 x + -sv32 y = -(sv32 x + sv32 y) := by omega
  unfold addf32
  rw [sv_flip32, sv_flip32, e, if_neg (by omega), if_neg h, flip_rd32, Int.natAbs_neg]
  congr 1
  rcases Int.lt_or_le (sv32 x + sv32 y) 0 with h1 | h1
  · rw [decide_eq_true h1, decide_eq_false (show ¬ -(sv32 x + sv32 y) < 0 by omega)]; rfl
  · rw [decide_eq_false (show ¬ (sv32 x + sv32 y) < 0 by omega), decide_eq_true (show -(sv32 x + sv32 y) < 0 by omega)]; rfl
theorem addf_zero_sum32 {x y : Nat} (h : sv32 x + sv32 y = 0) : isZero32 (addf32 x y) = true := by
  unfold addf32; rw [if_pos h]; split <;> decide
theorem add_flip232 {x y : Nat} (h : isNaN32 (add32 x y) = false) (hz : isZero32 (add32 x y) = false) : add32 (flip32 x) (flip32 y) = flip32 (add32 x y) := by
  obtain ⟨nx, ny, hi⟩ := add_ok32 h
  have nx' : isNaN32 (flip32 x) = false := by rw [isNaN_flip32]; exact nx
  have ny' : isNaN32 (flip32 y) = false := by rw [isNaN_flip32]; exact ny
  cases ix : isInf32 x
  · cases iy : isInf32 y
    · have fx := fin_of32 nx ix
      have fy := fin_of32 ny iy
      have e := add_ff32 fx fy
      rw [e] at hz ⊢
      rw [add_ff32 (by rw [fin_flip32]; exact fx) (by rw [fin_flip32]; exact fy)]
      refine addf_flip32 fun h0 => ?_
      rw [addf_zero_sum32 h0] at hz; cases hz
    · rw [add_ir32 nx ny iy (.inl ix), add_ir32 nx' ny' (by rw [isInf_flip32]; exact iy) (.inl (by rw [isInf_flip32]; exact ix))]
  · cases iy : isInf32 y
    · rw [add_il32 nx ny ix (.inl iy), add_il32 nx' ny' (by rw [isInf_flip32]; exact ix) (.inl (by rw [isInf_flip32]; exact iy))]
    · have hxy := hi ix iy
      subst hxy
      rw [add_il32 nx ny ix (.inr rfl), add_il32 nx' ny' (by rw [isInf_flip32]; exact ix) (.inr rfl)]

-- order
theorem key_inf32 {x : Nat} (h : isInf32 x = true) : key32 x = sk (neg32 x) 2139095040 := by unfold key32; rw [inf_iff32.mp h]
theorem add_mono32 {x y z : Nat} (hx : x < 4294967296) (hy : y < 4294967296) (hz : z < 4294967296) (h : key32 x ≤ key32 y) (na : isNaN32 (add32 x z) = false) (nb : isNaN32 (add32 y z) = false) : key32 (add32 x z) ≤ key32 (add32 y z) := by
  obtain ⟨nx, nz, hxz⟩ := add_ok32 na
  obtain ⟨ny, _, hyz⟩ := add_ok32 nb
  cases iz : isInf32 z
  · have bda := key_bd32 na
    have bdb := key_bd32 nb
    cases ix : isInf32 x
    · cases iy : isInf32 y
      · rw [add_ff32 (fin_of32 nx ix) (fin_of32 nz iz), add_ff32 (fin_of32 ny iy) (fin_of32 nz iz), key_addf32, key_addf32]
        have := key_sv_le32.mp h
        exact rk_mono32 (by omega)
      · have e := add_il32 ny nz iy (.inl iz)
        rw [e] at bdb ⊢
        have hk := key_inf32 iy
        have hb := key_bd32 nx
        have hm := inf_not32.mp ix
        have hm2 := nan_not32.mp nx
        cases hn : neg32 y
        · rw [hn] at hk; simp only [sk, Bool.false_eq_true, if_false] at hk; omega
        · rw [hn] at hk; simp only [sk, if_true] at hk
          exfalso
          have : key32 x = -2139095040 := by omega
          unfold key32 sk at this
          cases hx' : neg32 x <;> rw [hx'] at this <;> simp at this <;> omega
    · have e := add_il32 nx nz ix (.inl iz)
      rw [e] at bda ⊢
      have hk := key_inf32 ix
      cases hn : neg32 x
      · rw [hn] at hk; simp only [sk, Bool.false_eq_true, if_false] at hk
        have hb := key_bd32 ny
        have hky : key32 y = 2139095040 := by omega
        have iy : isInf32 y = true := by
          apply inf_iff32.mpr
          unfold key32 sk at hky
          cases hy' : neg32 y <;> rw [hy'] at hky <;> simp at hky <;> omega
        rw [add_il32 ny nz iy (.inl iz)]
        exact h
      · rw [hn] at hk; simp only [sk, if_true] at hk; omega
  · have e1 : add32 x z = z := by
      cases ix : isInf32 x
      · exact add_ir32 nx nz iz (.inl ix)
      · exact add_ir32 nx nz iz (.inr (hxz ix iz))
    have e2 : add32 y z = z := by
      cases iy : isInf32 y
      · exact add_ir32 ny nz iz (.inl iy)
      · exact add_ir32 ny nz iz (.inr (hyz iy iz))
    rw [e1, e2]; exact Int.le_refl _
theorem mul_ok32 {x y : Nat} (h : isNaN32 (mul32 x y) = false) : isNaN32 x = false ∧ isNaN32 y = false ∧ ¬ (isInf32 x = true ∧ isZero32 y = true) ∧ ¬ (isZero32 x = true ∧ isInf32 y = true) := by
  have hq := nq_nan32
  unfold mul32 at h
  have hc : ¬ (isNaN32 x || isNaN32 y || (isInf32 x && isZero32 y) || (isZero32 x && isInf32 y)) = true := by
    intro hc
    rw [if_pos hc, hq] at h; cases h
  simp only [Bool.or_eq_true, Bool.and_eq_true, not_or] at hc
  obtain ⟨⟨⟨a, b⟩, c⟩, d⟩ := hc
  exact ⟨by simpa using a, by simpa using b, c, d⟩
/-- the place of a product with a float that is not negative -/
noncomputable def pk32 (a : Bool) (v z : Nat) : Int := sk a (min (rn 23 (v * z) (2 ^ 149)) 2139095040)
theorem key_mulf32 {x z : Nat} (fx : fin32 x = true) (fz : fin32 z = true) (hz : neg32 z = false) : key32 (mul32 x z) = pk32 (neg32 x) (val32 x) (val32 z) := by
  have a := fin_nan32 fx
  have b := fin_nan32 fz
  have e : mul32 x z = rd32 (neg32 x != neg32 z) (val32 x * val32 z) (2 ^ 149) := by
    unfold mul32; rw [a.1, a.2, b.1, b.2]
    cases isZero32 x <;> cases isZero32 z <;> rfl
  rw [e, key_rd32, hz, bne_false32]; rfl
theorem pk_mono32 {a b : Bool} {v u z : Nat} (h : sk a v ≤ sk b u) : pk32 a v z ≤ pk32 b u z := by
  unfold pk32
  have h1 := @rn_mono 23 (by omega) (v * z) (2 ^ 149) (u * z) (2 ^ 149) (two_pow_pos 149) (two_pow_pos 149)
  have h2 := @rn_mono 23 (by omega) (u * z) (2 ^ 149) (v * z) (2 ^ 149) (two_pow_pos 149) (two_pow_pos 149)
  have hl1 : v ≤ u → v * z * 2 ^ 149 ≤ u * z * 2 ^ 149 := fun h => Nat.mul_le_mul_right _ (Nat.mul_le_mul_right _ h)
  have hl2 : u ≤ v → u * z * 2 ^ 149 ≤ v * z * 2 ^ 149 := fun h => Nat.mul_le_mul_right _ (Nat.mul_le_mul_right _ h)
  cases a <;> cases b <;> simp only [sk, Bool.false_eq_true, if_false, if_true] at h ⊢
  · have := h1 (hl1 (by omega)); omega
  · have hv : v = 0 := by omega
    have hu : u = 0 := by omega
    subst hv hu
    generalize hp : 2 ^ 149 = p
    have hp0 : 0 < p := by rw [← hp]; exact two_pow_pos 149
    rw [Nat.zero_mul, rn_zero hp0]; simp
  · omega
  · have := h2 (hl2 (by omega)); omega
theorem mul_inf32 {x z : Nat} (h : isNaN32 (mul32 x z) = false) (hi : isInf32 x = true ∨ isInf32 z = true) : mul32 x z = sgn32 (neg32 x != neg32 z) 2139095040 := by
  obtain ⟨a, b, c, d⟩ := mul_ok32 h
  unfold mul32
  rw [a, b]
  cases ix : isInf32 x <;> cases iz : isInf32 z <;> cases zx : isZero32 x <;> cases zz : isZero32 z <;> simp [ix, iz, zx, zz] at c d hi ⊢
theorem mul_mono32 {x y z : Nat} (hz : neg32 z = false) (h : key32 x ≤ key32 y) (na : isNaN32 (mul32 x z) = false) (nb : isNaN32 (mul32 y z) = false) : key32 (mul32 x z) ≤ key32 (mul32 y z) := by
  obtain ⟨nx, nz, hx1, hx2⟩ := mul_ok32 na
  obtain ⟨ny, _, hy1, hy2⟩ := mul_ok32 nb
  have bda := key_bd32 na
  have bdb := key_bd32 nb
  have kx := key_bd32 nx
  have ky := key_bd32 ny
  -- an infinite factor
  have inf : ∀ u : Nat, isNaN32 (mul32 u z) = false → (isInf32 u = true ∨ isInf32 z = true) → key32 (mul32 u z) = sk (neg32 u) 2139095040 := by
    intro u hu hi
    rw [mul_inf32 hu hi, hz, bne_false32, key_sgn32 _ (by omega)]
  cases iz : isInf32 z
  · cases ix : isInf32 x
    · cases iy : isInf32 y
      · rw [key_mulf32 (fin_of32 nx ix) (fin_of32 nz iz) hz, key_mulf32 (fin_of32 ny iy) (fin_of32 nz iz) hz]
        exact pk_mono32 (key_sv_le32.mp h)
      · have e := inf y nb (.inl iy)
        have hk := key_inf32 iy
        rw [e, ← hk]
        have hm := inf_not32.mp ix
        cases hn : neg32 y
        · rw [hn] at hk; simp only [sk, Bool.false_eq_true, if_false] at hk; omega
        · rw [hn] at hk; simp only [sk, if_true] at hk
          exfalso
          have : key32 x = -2139095040 := by omega
          unfold key32 sk at this
          cases hx' : neg32 x <;> rw [hx'] at this <;> simp at this <;> omega
    · have e := inf x na (.inl ix)
      have hk := key_inf32 ix
      rw [e, ← hk]
      cases hn : neg32 x
      · rw [hn] at hk; simp only [sk, Bool.false_eq_true, if_false] at hk
        have hky : key32 y = 2139095040 := by omega
        have iy : isInf32 y = true := by
          apply inf_iff32.mpr
          unfold key32 sk at hky
          cases hy' : neg32 y <;> rw [hy'] at hky <;> simp at hky <;> omega
        rw [inf y nb (.inl iy), ← key_inf32 iy]
        exact h
      · rw [hn] at hk; simp only [sk, if_true] at hk; omega
  · have zx : isZero32 x = false := by cases hh : isZero32 x; rfl; exact absurd ⟨hh, iz⟩ hx2
    have zy : isZero32 y = false := by cases hh : isZero32 y; rfl; exact absurd ⟨hh, iz⟩ hy2
    have mx := zero_not32.mp zx
    have my := zero_not32.mp zy
    rw [inf x na (.inr iz), inf y nb (.inr iz)]
    unfold key32 sk at h
    cases hn : neg32 x <;> cases hm : neg32 y <;> rw [hn, hm] at h <;> simp only [sk, Bool.false_eq_true, if_false, if_true] at h ⊢ <;> omega
end Go.Proofs.Ytpjanmahbimhkaa.SF
