/-
  Plain mathematics: the model's sums, differences, products, quotients and order of floats.
-/
import Derived.Test.YtpjanmahbimhkaaIeeeP
import GoSem.Core.Float
namespace Go.Proofs.Ytpjanmahbimhkaa.SF
open Go.RowKit
set_option linter.unusedVariables false

theorem signed_sk (s : Bool) (m u : Nat) : Ieee.signed s m u = sk s (m * 2 ^ u) := by
  unfold Ieee.signed sk
  rw [Nat.shiftLeft_eq]
theorem sk_scale (s : Bool) (m p : Nat) : sk s (m * p) = sk s m * (p : Int) := by
  unfold sk; cases s
  · simp only [Bool.false_eq_true, if_false]; exact Int.natCast_mul _ _
  · simp only [if_true, Int.neg_mul]; rw [Int.natCast_mul]
/-- a part of a place that is counted from the smallest number -/
theorem signed_part (s : Bool) (m e lo : Nat) (L : Int) (h : lo ≤ e) : Ieee.signed s m ((-L + (e : Int)) - (-L + (lo : Int))).toNat * ((2 ^ lo : Nat) : Int) = sk s (m * 2 ^ e) := by
  rw [signed_sk, ← sk_scale, show ((-L + (e : Int)) - (-L + (lo : Int))).toNat = e - lo by omega, Nat.mul_assoc, ← Nat.pow_add, show e - lo + lo = e by omega]
theorem pow4 {a b c d e : Nat} (h : a + b = c + d + e) : 2 ^ a * 2 ^ b = 2 ^ c * 2 ^ d * 2 ^ e := by rw [← Nat.pow_add, ← Nat.pow_add, ← Nat.pow_add, h]
def ordO (a b : Int) : Ordering := if a < b then .lt else if a = b then .eq else .gt
theorem cmp_ordO (a b : Int) : compare a b = ordO a b := by
  show compareOfLessAndEq a b = _
  unfold compareOfLessAndEq ordO
  rfl
theorem cmp_scale {a b : Int} {p : Nat} (hp : 0 < p) : compare a b = compare (a * (p : Int)) (b * (p : Int)) := by
  have hpi : (0 : Int) < p := by omega
  rw [cmp_ordO, cmp_ordO]
  unfold ordO
  rcases Int.lt_trichotomy a b with h | h | h
  · have := Int.mul_lt_mul_of_pos_right h hpi
    rw [if_pos h, if_pos this]
  · rw [h]; simp
  · have := Int.mul_lt_mul_of_pos_right h hpi
    rw [if_neg (by omega), if_neg (by omega), if_neg (by omega), if_neg (by omega)]
theorem ie_least64 : Ieee.double.leastPlace = -1074 := by decide
theorem ie_binade64 : Ieee.double.binade = 4503599627370496 := by decide
theorem ie_inf64 : Ieee.double.infRung = 9218868437227405312 := by decide
theorem ie_sw64 : Ieee.double.signWeight = 9223372036854775808 := by decide
theorem ie_word64 (neg : Bool) (b : Nat) : Ieee.double.word neg b = sgn64 neg b := by
  unfold Ieee.Format.word sgn64; rw [ie_sw64]; cases neg <;> simp
theorem ie_read64 {x : Nat} (hx : x < 18446744073709551616) : Ieee.double.read x = if isNaN64 x then .nan (neg64 x) (mag64 x - 9218868437227405312) else if isInf64 x then .infinity (neg64 x) else .number (neg64 x) (sm64 x) (-1074 + (se64 x : Int)) := by
  unfold Ieee.Format.read
  rw [ie_least64, ie_binade64, ie_inf64, ie_sw64]
  have e1 : (x / 9223372036854775808 % 2 == 1) = neg64 x := by
    unfold neg64; rw [Bool.eq_iff_iff, beq_iff_eq, decide_eq_true_iff]; omega
  have hm : x % 9223372036854775808 = mag64 x := rfl
  dsimp only
  rw [e1, hm]
  have hfd : mag64 x % 4503599627370496 = ff64 x := rfl
  have hed : mag64 x / 4503599627370496 = fe64 x := rfl
  rw [hfd, hed]
  have h1 := mag_fe64 x
  have h3 := ff_lt64 x
  unfold isNaN64 isInf64 sm64 se64
  by_cases g1 : mag64 x < 4503599627370496
  · have hE : fe64 x = 0 := by omega
    rw [if_pos g1, if_neg (by rw [decide_eq_true_iff]; omega), if_neg (by rw [decide_eq_true_iff]; omega), if_pos hE, hE]
    have : mag64 x = ff64 x := by omega
    rw [this]; rfl
  · rw [if_neg g1]
    have hE : fe64 x ≠ 0 := by omega
    by_cases g2 : mag64 x < 9218868437227405312
    · rw [if_pos g2, if_neg (by rw [decide_eq_true_iff]; omega), if_neg (by rw [decide_eq_true_iff]; omega), if_neg hE]
      all_goals rfl
    · rw [if_neg g2]
      by_cases g3 : mag64 x = 9218868437227405312
      · rw [if_pos g3, if_neg (by rw [decide_eq_true_iff]; omega), if_pos (by rw [decide_eq_true_iff]; omega)]
      · rw [if_neg g3, if_pos (by rw [decide_eq_true_iff]; omega)]
theorem ie_nan64 {x : Nat} (hx : x < 18446744073709551616) (h : isNaN64 x = true) : Ieee.double.read x = .nan (neg64 x) (mag64 x - 9218868437227405312) := by rw [ie_read64 hx, h]; rfl
theorem ie_infi64 {x : Nat} (hx : x < 18446744073709551616) (h : isInf64 x = true) : Ieee.double.read x = .infinity (neg64 x) := by
  have hn : isNaN64 x = false := nan_not64.mpr (by rw [inf_iff64.mp h]; omega)
  rw [ie_read64 hx, hn, h]; rfl
theorem ie_fin64 {x : Nat} (hx : x < 18446744073709551616) (h : fin64 x = true) : Ieee.double.read x = .number (neg64 x) (sm64 x) (-1074 + (se64 x : Int)) := by
  obtain ⟨a, b⟩ := fin_nan64 h
  rw [ie_read64 hx, a, b]; rfl
theorem ie_opp64 {x : Nat} (hx : x < 18446744073709551616) : (Ieee.double.read x).opposite = Ieee.double.read (flip64 x) := by
  have h1 : sm64 (flip64 x) = sm64 x := by unfold sm64 fe64 ff64; rw [mag_flip64]
  have h2 : se64 (flip64 x) = se64 x := by unfold se64 fe64; rw [mag_flip64]
  rw [ie_read64 hx, ie_read64 (flip_lt64 x), isNaN_flip64, isInf_flip64, neg_flip64, mag_flip64, h1, h2]
  cases isNaN64 x
  · cases isInf64 x <;> rfl
  · rfl
theorem ie_nearest64 (neg : Bool) (mag : Nat) (E : Int) : Ieee.double.nearest neg mag (-1074 + E) = rd64 neg (mag * 2 ^ E.toNat) (2 ^ (-E).toNat) := by
  unfold Ieee.Format.nearest
  rw [ie_word64]
  by_cases hm : mag = 0
  · rw [if_pos hm, hm, Nat.zero_mul, rd_zero64 _ (two_pow_pos _)]
  · rw [if_neg hm, ie_least64, ie_binade64, ie_inf64]
    obtain ⟨k, hk⟩ : ∃ k : Nat, (k : Int) = max (E + mag.log2 - 52) 0 := ⟨(max (E + mag.log2 - 52) 0).toNat, by omega⟩
    have hlast : max (-1074 + E + (mag.log2 : Int) - (Ieee.double.fractionBits : Int)) (-1074) = -1074 + (k : Int) := by
      show max (-1074 + E + (mag.log2 : Int) - ((52 : Nat) : Int)) (-1074) = _
      omega
    have hr := nearest_rnd (F := 52) (mag := mag) (k := k) (E := E) (by omega) hm hk neg
    show Ieee.double.word neg (min ((max (-1074 + E + (mag.log2 : Int) - (Ieee.double.fractionBits : Int)) (-1074) - -1074).toNat * 4503599627370496 + Ieee.Toward.even.cut neg (mag <<< (-1074 + E - max (-1074 + E + (mag.log2 : Int) - (Ieee.double.fractionBits : Int)) (-1074)).toNat) (max (-1074 + E + (mag.log2 : Int) - (Ieee.double.fractionBits : Int)) (-1074) - (-1074 + E)).toNat) 9218868437227405312) = _
    rw [hlast, ie_word64]
    have t1 : (-1074 + (k : Int) - -1074).toNat = k := by omega
    have t2 : -1074 + E - (-1074 + (k : Int)) = E - k := by omega
    have t3 : -1074 + (k : Int) - (-1074 + E) = (k : Int) - E := by omega
    rw [t1, t2, t3]
    rw [rd_of64 neg hr (two_pow_pos _)]
theorem ie_write64 (neg : Bool) (mag : Nat) (E : Int) {q : Int} (hq : q = -1074 + E) : Ieee.double.write (.number neg mag q) = rd64 neg (mag * 2 ^ E.toNat) (2 ^ (-E).toNat) := by
  subst hq; exact ie_nearest64 neg mag E
theorem ie_writei64 (neg : Bool) : Ieee.double.write (.infinity neg) = sgn64 neg 9218868437227405312 := by
  show Ieee.double.word neg Ieee.double.infRung = _
  rw [ie_word64, ie_inf64]
/-- sums -/
theorem ie_sum_fin64 {x y : Nat} (hx : x < 18446744073709551616) (hy : y < 18446744073709551616) (fx : fin64 x = true) (fy : fin64 y = true) : ((Ieee.double.read x).sum (Ieee.double.read y)).map Ieee.double.write = some (addf64 x y) := by
  rw [ie_fin64 hx fx, ie_fin64 hy fy]
  obtain ⟨lo, hlo⟩ : ∃ lo, lo = min (se64 x) (se64 y) := ⟨_, rfl⟩
  have hb : min (-1074 + (se64 x : Int)) (-1074 + (se64 y : Int)) = -1074 + (lo : Int) := by omega
  show some (Ieee.double.write (Ieee.Datum.number _ _ _)) = _
  congr 1
  rw [hb, ie_write64 _ _ (lo : Int) rfl]
  have s1 := signed_part (neg64 x) (sm64 x) (se64 x) lo 1074 (by omega)
  have s2 := signed_part (neg64 y) (sm64 y) (se64 y) lo 1074 (by omega)
  rw [← val_sm64, ← sv_sk64] at s1 s2
  generalize Ieee.signed (neg64 x) (sm64 x) (-1074 + (se64 x : Int) - (-1074 + (lo : Int))).toNat = a at *
  generalize Ieee.signed (neg64 y) (sm64 y) (-1074 + (se64 y : Int) - (-1074 + (lo : Int))).toNat = b at *
  have hs : sv64 x + sv64 y = (a + b) * ((2 ^ lo : Nat) : Int) := by rw [Int.add_mul, s1, s2]
  have hp := two_pow_pos lo
  have hpi : (0 : Int) < ((2 ^ lo : Nat) : Int) := by omega
  unfold addf64
  have e1 : ((lo : Nat) : Int).toNat = lo := rfl
  have e2 : (-((lo : Nat) : Int)).toNat = 0 := by omega
  rw [e1, e2, Nat.pow_zero, hs, Int.natAbs_mul, Int.natAbs_natCast]
  by_cases h0 : a + b = 0
  · rw [if_pos h0, h0, Int.zero_mul, if_pos rfl, Int.natAbs_zero, Nat.zero_mul, rd_zero64 _ (by omega)]
    cases neg64 x <;> cases neg64 y <;> rfl
  · rw [if_neg h0, if_neg (Int.mul_ne_zero h0 (by omega))]
    congr 1
    rw [Bool.eq_iff_iff, decide_eq_true_iff, decide_eq_true_iff]
    constructor
    · intro h; exact Int.mul_neg_of_neg_of_pos h hpi
    · intro h
      rcases Int.lt_or_le (a + b) 0 with g | g
      · exact g
      · have := Int.mul_nonneg g (Int.le_of_lt hpi); omega
theorem ie_sum64 {x y : Nat} (hx : x < 18446744073709551616) (hy : y < 18446744073709551616) (hn : isNaN64 (add64 x y) = false) : ((Ieee.double.read x).sum (Ieee.double.read y)).map Ieee.double.write = some (add64 x y) := by
  obtain ⟨nx, ny, hi⟩ := add_ok64 hn
  cases ix : isInf64 x
  · cases iy : isInf64 y
    · rw [add_ff64 (fin_of64 nx ix) (fin_of64 ny iy)]
      exact ie_sum_fin64 hx hy (fin_of64 nx ix) (fin_of64 ny iy)
    · rw [add_ir64 nx ny iy (.inl ix), ie_infi64 hy iy, ie_fin64 hx (fin_of64 nx ix)]
      show some (Ieee.double.write (.infinity (neg64 y))) = _
      rw [ie_writei64, sgn_inf64 hy iy]
  · cases iy : isInf64 y
    · rw [add_il64 nx ny ix (.inl iy), ie_infi64 hx ix, ie_fin64 hy (fin_of64 ny iy)]
      show some (Ieee.double.write (.infinity (neg64 x))) = _
      rw [ie_writei64, sgn_inf64 hx ix]
    · have e := hi ix iy
      rw [add_il64 nx ny ix (.inr e), ← e, ie_infi64 hx ix]
      show Option.map _ (if neg64 x = neg64 x then some (Ieee.Datum.infinity (neg64 x)) else none) = _
      rw [if_pos rfl]
      show some (Ieee.double.write (.infinity (neg64 x))) = _
      rw [ie_writei64, sgn_inf64 hx ix]
theorem ie_sum_none64 {x y : Nat} (hx : x < 18446744073709551616) (hy : y < 18446744073709551616) (hn : isNaN64 (add64 x y) = true) : ((Ieee.double.read x).sum (Ieee.double.read y)).map Ieee.double.write = none := by
  cases nx : isNaN64 x
  · cases ny : isNaN64 y
    · cases ix : isInf64 x
      · cases iy : isInf64 y
        · rw [add_ff64 (fin_of64 nx ix) (fin_of64 ny iy), nan_addf64] at hn; cases hn
        · rw [add_ir64 nx ny iy (.inl ix), ny] at hn; cases hn
      · cases iy : isInf64 y
        · rw [add_il64 nx ny ix (.inl iy), nx] at hn; cases hn
        · by_cases he : neg64 x = neg64 y
          · have hxy : x = y := bits_eq64 hx hy he (by rw [inf_iff64.mp ix, inf_iff64.mp iy])
            rw [add_il64 nx ny ix (.inr hxy), nx] at hn; cases hn
          · rw [ie_infi64 hx ix, ie_infi64 hy iy]
            show Option.map _ (if neg64 x = neg64 y then some (Ieee.Datum.infinity (neg64 x)) else none) = _
            rw [if_neg he]; rfl
    · rw [ie_nan64 hy ny]
      cases Ieee.double.read x <;> rfl
  · rw [ie_nan64 hx nx]
    cases Ieee.double.read y <;> rfl
theorem ie_add64 {x y : Nat} (hx : x < 18446744073709551616) (hy : y < 18446744073709551616) : Ieee.double.add x y = if isNaN64 (add64 x y) then none else some (add64 x y) := by
  cases hn : isNaN64 (add64 x y)
  · exact ie_sum64 hx hy hn
  · exact ie_sum_none64 hx hy hn
theorem ie_sub64 {x y : Nat} (hx : x < 18446744073709551616) (hy : y < 18446744073709551616) : Ieee.double.sub x y = if isNaN64 (add64 x (flip64 y)) then none else some (add64 x (flip64 y)) := by
  have h := ie_add64 hx (flip_lt64 y)
  unfold Ieee.Format.add at h
  unfold Ieee.Format.sub
  rw [ie_opp64 hy]; exact h
/-- products -/
theorem ie_zero64 {x : Nat} : sm64 x = 0 ↔ isZero64 x = true := by rw [sm_zero64, zero_iff64]
theorem ie_mul_fin64 {x y : Nat} (hx : x < 18446744073709551616) (hy : y < 18446744073709551616) (fx : fin64 x = true) (fy : fin64 y = true) : Ieee.double.mul x y = some (rd64 (neg64 x != neg64 y) (val64 x * val64 y) (2 ^ 1074)) := by
  unfold Ieee.Format.mul
  rw [ie_fin64 hx fx, ie_fin64 hy fy]
  show some (Ieee.double.write (Ieee.Datum.number _ _ _)) = _
  congr 1
  rw [ie_write64 _ _ ((se64 x : Int) + se64 y - 1074) (by omega)]
  have hxor : (neg64 x ^^ neg64 y) = (neg64 x != neg64 y) := by cases neg64 x <;> cases neg64 y <;> rfl
  rw [hxor]
  have e : ((se64 x : Int) + se64 y - 1074).toNat + 1074 = se64 x + se64 y + (-((se64 x : Int) + se64 y - 1074)).toNat := by omega
  generalize ((se64 x : Int) + se64 y - 1074).toNat = u at *
  generalize (-((se64 x : Int) + se64 y - 1074)).toNat = v at *
  have e2 := pow4 (a := u) (b := 1074) (c := se64 x) (d := se64 y) (e := v) e
  have hp := two_pow_pos 1074
  generalize 2 ^ 1074 = p at *
  refine rd_congr64 _ (two_pow_pos v) hp ?_
  rw [val_sm64, val_sm64, Nat.mul_assoc (sm64 x * sm64 y), e2]
  ac_rfl
theorem ie_mul64 {x y : Nat} (hx : x < 18446744073709551616) (hy : y < 18446744073709551616) : Ieee.double.mul x y = if isNaN64 (mul64 x y) then none else some (mul64 x y) := by
  have hq := nq_nan64
  cases nx : isNaN64 x
  · cases ny : isNaN64 y
    · cases ix : isInf64 x
      · have fx := fin_of64 nx ix
        cases iy : isInf64 y
        · have fy := fin_of64 ny iy
          have e : mul64 x y = rd64 (neg64 x != neg64 y) (val64 x * val64 y) (2 ^ 1074) := by
            unfold mul64; rw [nx, ny, ix, iy]
            generalize 2 ^ 1074 = p
            cases isZero64 x <;> cases isZero64 y <;> rfl
          rw [ie_mul_fin64 hx hy fx fy, e, nan_rd64]; rfl
        · have e : mul64 x y = if isZero64 x then 9221120237041090560 else sgn64 (neg64 x != neg64 y) 9218868437227405312 := by
            unfold mul64; rw [nx, ny, ix, iy]
            generalize 2 ^ 1074 = p
            cases isZero64 x <;> cases isZero64 y <;> rfl
          unfold Ieee.Format.mul
          rw [ie_fin64 hx fx, ie_infi64 hy iy, e]
          show Option.map _ (if sm64 x = 0 then none else some (Ieee.Datum.infinity _)) = _
          cases hz : isZero64 x
          · have hs : sm64 x ≠ 0 := fun h => by rw [ie_zero64.mp h] at hz; cases hz
            have hni : isNaN64 (sgn64 (neg64 x != neg64 y) 9218868437227405312) = false := nan_not64.mpr (by rw [mag_sgn64 _ (by omega)]; omega)
            rw [if_neg hs]
            simp only [Bool.false_eq_true, if_false]
            rw [hni]
            simp only [Bool.false_eq_true, if_false]
            show some (Ieee.double.write (.infinity _)) = _
            rw [ie_writei64]
            all_goals (cases neg64 x <;> cases neg64 y <;> rfl)
          · rw [if_pos (ie_zero64.mpr hz)]
            simp only [if_true]
            rw [hq]; rfl
      · cases iy : isInf64 y
        · have fy := fin_of64 ny iy
          have e : mul64 x y = if isZero64 y then 9221120237041090560 else sgn64 (neg64 x != neg64 y) 9218868437227405312 := by
            unfold mul64; rw [nx, ny, ix, iy]
            generalize 2 ^ 1074 = p
            cases isZero64 x <;> cases isZero64 y <;> rfl
          unfold Ieee.Format.mul
          rw [ie_fin64 hy fy, ie_infi64 hx ix, e]
          show Option.map _ (if sm64 y = 0 then none else some (Ieee.Datum.infinity _)) = _
          cases hz : isZero64 y
          · have hs : sm64 y ≠ 0 := fun h => by rw [ie_zero64.mp h] at hz; cases hz
            have hni : isNaN64 (sgn64 (neg64 x != neg64 y) 9218868437227405312) = false := nan_not64.mpr (by rw [mag_sgn64 _ (by omega)]; omega)
            rw [if_neg hs]
            simp only [Bool.false_eq_true, if_false]
            rw [hni]
            simp only [Bool.false_eq_true, if_false]
            show some (Ieee.double.write (.infinity _)) = _
            rw [ie_writei64]
            all_goals (cases neg64 x <;> cases neg64 y <;> rfl)
          · rw [if_pos (ie_zero64.mpr hz)]
            simp only [if_true]
            rw [hq]; rfl
        · have hzx : isZero64 x = false := zero_not64.mpr (by rw [inf_iff64.mp ix]; omega)
          have hzy : isZero64 y = false := zero_not64.mpr (by rw [inf_iff64.mp iy]; omega)
          have e : mul64 x y = sgn64 (neg64 x != neg64 y) 9218868437227405312 := by
            unfold mul64; rw [nx, ny, ix, iy, hzx, hzy]; rfl
          have hni : isNaN64 (sgn64 (neg64 x != neg64 y) 9218868437227405312) = false := nan_not64.mpr (by rw [mag_sgn64 _ (by omega)]; omega)
          unfold Ieee.Format.mul
          rw [ie_infi64 hx ix, ie_infi64 hy iy, e, hni]
          simp only [Bool.false_eq_true, if_false]
          show some (Ieee.double.write (.infinity _)) = _
          rw [ie_writei64]
          all_goals (cases neg64 x <;> cases neg64 y <;> rfl)
    · have e : mul64 x y = 9221120237041090560 := by rw [mul_comm64]; exact mul_nl64 ny
      rw [e, hq]
      unfold Ieee.Format.mul
      rw [ie_nan64 hy ny]
      cases Ieee.double.read x <;> rfl
  · rw [mul_nl64 nx, hq]
    unfold Ieee.Format.mul
    rw [ie_nan64 hx nx]
    cases Ieee.double.read y <;> rfl
theorem ie_least32 : Ieee.single.leastPlace = -149 := by decide
theorem ie_binade32 : Ieee.single.binade = 8388608 := by decide
theorem ie_inf32 : Ieee.single.infRung = 2139095040 := by decide
theorem ie_sw32 : Ieee.single.signWeight = 2147483648 := by decide
theorem ie_word32 (neg : Bool) (b : Nat) : Ieee.single.word neg b = sgn32 neg b := by
  unfold Ieee.Format.word sgn32; rw [ie_sw32]; cases neg <;> simp
theorem ie_read32 {x : Nat} (hx : x < 4294967296) : Ieee.single.read x = if isNaN32 x then .nan (neg32 x) (mag32 x - 2139095040) else if isInf32 x then .infinity (neg32 x) else .number (neg32 x) (sm32 x) (-149 + (se32 x : Int)) := by
  unfold Ieee.Format.read
  rw [ie_least32, ie_binade32, ie_inf32, ie_sw32]
  have e1 : (x / 2147483648 % 2 == 1) = neg32 x := by
    unfold neg32; rw [Bool.eq_iff_iff, beq_iff_eq, decide_eq_true_iff]; omega
  have hm : x % 2147483648 = mag32 x := rfl
  dsimp only
  rw [e1, hm]
  have hfd : mag32 x % 8388608 = ff32 x := rfl
  have hed : mag32 x / 8388608 = fe32 x := rfl
  rw [hfd, hed]
  have h1 := mag_fe32 x
  have h3 := ff_lt32 x
  unfold isNaN32 isInf32 sm32 se32
  by_cases g1 : mag32 x < 8388608
  · have hE : fe32 x = 0 := by omega
    rw [if_pos g1, if_neg (by rw [decide_eq_true_iff]; omega), if_neg (by rw [decide_eq_true_iff]; omega), if_pos hE, hE]
    have : mag32 x = ff32 x := by omega
    rw [this]; rfl
  · rw [if_neg g1]
    have hE : fe32 x ≠ 0 := by omega
    by_cases g2 : mag32 x < 2139095040
    · rw [if_pos g2, if_neg (by rw [decide_eq_true_iff]; omega), if_neg (by rw [decide_eq_true_iff]; omega), if_neg hE]
      all_goals rfl
    · rw [if_neg g2]
      by_cases g3 : mag32 x = 2139095040
      · rw [if_pos g3, if_neg (by rw [decide_eq_true_iff]; omega), if_pos (by rw [decide_eq_true_iff]; omega)]
      · rw [if_neg g3, if_pos (by rw [decide_eq_true_iff]; omega)]
theorem ie_nan32 {x : Nat} (hx : x < 4294967296) (h : isNaN32 x = true) : Ieee.single.read x = .nan (neg32 x) (mag32 x - 2139095040) := by rw [ie_read32 hx, h]; rfl
theorem ie_infi32 {x : Nat} (hx : x < 4294967296) (h : isInf32 x = true) : Ieee.single.read x = .infinity (neg32 x) := by
  have hn : isNaN32 x = false := nan_not32.mpr (by rw [inf_iff32.mp h]; omega)
  rw [ie_read32 hx, hn, h]; rfl
theorem ie_fin32 {x : Nat} (hx : x < 4294967296) (h : fin32 x = true) : Ieee.single.read x = .number (neg32 x) (sm32 x) (-149 + (se32 x : Int)) := by
  obtain ⟨a, b⟩ := fin_nan32 h
  rw [ie_read32 hx, a, b]; rfl
theorem ie_opp32 {x : Nat} (hx : x < 4294967296) : (Ieee.single.read x).opposite = Ieee.single.read (flip32 x) := by
  have h1 : sm32 (flip32 x) = sm32 x := by unfold sm32 fe32 ff32; rw [mag_flip32]
  have h2 : se32 (flip32 x) = se32 x := by unfold se32 fe32; rw [mag_flip32]
  rw [ie_read32 hx, ie_read32 (flip_lt32 x), isNaN_flip32, isInf_flip32, neg_flip32, mag_flip32, h1, h2]
  cases isNaN32 x
  · cases isInf32 x <;> rfl
  · rfl
theorem ie_nearest32 (neg : Bool) (mag : Nat) (E : Int) : Ieee.single.nearest neg mag (-149 + E) = rd32 neg (mag * 2 ^ E.toNat) (2 ^ (-E).toNat) := by
  unfold Ieee.Format.nearest
  rw [ie_word32]
  by_cases hm : mag = 0
  · rw [if_pos hm, hm, Nat.zero_mul, rd_zero32 _ (two_pow_pos _)]
  · rw [if_neg hm, ie_least32, ie_binade32, ie_inf32]
    obtain ⟨k, hk⟩ : ∃ k : Nat, (k : Int) = max (E + mag.log2 - 23) 0 := ⟨(max (E + mag.log2 - 23) 0).toNat, by omega⟩
    have hlast : max (-149 + E + (mag.log2 : Int) - (Ieee.single.fractionBits : Int)) (-149) = -149 + (k : Int) := by
      show max (-149 + E + (mag.log2 : Int) - ((23 : Nat) : Int)) (-149) = _
      omega
    have hr := nearest_rnd (F := 23) (mag := mag) (k := k) (E := E) (by omega) hm hk neg
    show Ieee.single.word neg (min ((max (-149 + E + (mag.log2 : Int) - (Ieee.single.fractionBits : Int)) (-149) - -149).toNat * 8388608 + Ieee.Toward.even.cut neg (mag <<< (-149 + E - max (-149 + E + (mag.log2 : Int) - (Ieee.single.fractionBits : Int)) (-149)).toNat) (max (-149 + E + (mag.log2 : Int) - (Ieee.single.fractionBits : Int)) (-149) - (-149 + E)).toNat) 2139095040) = _
    rw [hlast, ie_word32]
    have t1 : (-149 + (k : Int) - -149).toNat = k := by omega
    have t2 : -149 + E - (-149 + (k : Int)) = E - k := by omega
    have t3 : -149 + (k : Int) - (-149 + E) = (k : Int) - E := by omega
    rw [t1, t2, t3]
    rw [rd_of32 neg hr (two_pow_pos _)]
theorem ie_write32 (neg : Bool) (mag : Nat) (E : Int) {q : Int} (hq : q = -149 + E) : Ieee.single.write (.number neg mag q) = rd32 neg (mag * 2 ^ E.toNat) (2 ^ (-E).toNat) := by
  subst hq; exact ie_nearest32 neg mag E
theorem ie_writei32 (neg : Bool) : Ieee.single.write (.infinity neg) = sgn32 neg 2139095040 := by
  show Ieee.single.word neg Ieee.single.infRung = _
  rw [ie_word32, ie_inf32]
/-- sums -/
theorem ie_sum_fin32 {x y : Nat} (hx : x < 4294967296) (hy : y < 4294967296) (fx : fin32 x = true) (fy : fin32 y = true) : ((Ieee.single.read x).sum (Ieee.single.read y)).map Ieee.single.write = some (addf32 x y) := by
  rw [ie_fin32 hx fx, ie_fin32 hy fy]
  obtain ⟨lo, hlo⟩ : ∃ lo, lo = min (se32 x) (se32 y) := ⟨_, rfl⟩
  have hb : min (-149 + (se32 x : Int)) (-149 + (se32 y : Int)) = -149 + (lo : Int) := by omega
  show some (Ieee.single.write (Ieee.Datum.number _ _ _)) = _
  congr 1
  rw [hb, ie_write32 _ _ (lo : Int) rfl]
  have s1 := signed_part (neg32 x) (sm32 x) (se32 x) lo 149 (by omega)
  have s2 := signed_part (neg32 y) (sm32 y) (se32 y) lo 149 (by omega)
  rw [← val_sm32, ← sv_sk32] at s1 s2
  generalize Ieee.signed (neg32 x) (sm32 x) (-149 + (se32 x : Int) - (-149 + (lo : Int))).toNat = a at *
  generalize Ieee.signed (neg32 y) (sm32 y) (-149 + (se32 y : Int) - (-149 + (lo : Int))).toNat = b at *
  have hs : sv32 x + sv32 y = (a + b) * ((2 ^ lo : Nat) : Int) := by rw [Int.add_mul, s1, s2]
  have hp := two_pow_pos lo
  have hpi : (0 : Int) < ((2 ^ lo : Nat) : Int) := by omega
  unfold addf32
  have e1 : ((lo : Nat) : Int).toNat = lo := rfl
  have e2 : (-((lo : Nat) : Int)).toNat = 0 := by omega
  rw [e1, e2, Nat.pow_zero, hs, Int.natAbs_mul, Int.natAbs_natCast]
  by_cases h0 : a + b = 0
  · rw [if_pos h0, h0, Int.zero_mul, if_pos rfl, Int.natAbs_zero, Nat.zero_mul, rd_zero32 _ (by omega)]
    cases neg32 x <;> cases neg32 y <;> rfl
  · rw [if_neg h0, if_neg (Int.mul_ne_zero h0 (by omega))]
    congr 1
    rw [Bool.eq_iff_iff, decide_eq_true_iff, decide_eq_true_iff]
    constructor
    · intro h; exact Int.mul_neg_of_neg_of_pos h hpi
    · intro h
      rcases Int.lt_or_le (a + b) 0 with g | g
      · exact g
      · have := Int.mul_nonneg g (Int.le_of_lt hpi); omega
theorem ie_sum32 {x y : Nat} (hx : x < 4294967296) (hy : y < 4294967296) (hn : isNaN32 (add32 x y) = false) : ((Ieee.single.read x).sum (Ieee.single.read y)).map Ieee.single.write = some (add32 x y) := by
  obtain ⟨nx, ny, hi⟩ := add_ok32 hn
  cases ix : isInf32 x
  · cases iy : isInf32 y
    · rw [add_ff32 (fin_of32 nx ix) (fin_of32 ny iy)]
      exact ie_sum_fin32 hx hy (fin_of32 nx ix) (fin_of32 ny iy)
    · rw [add_ir32 nx ny iy (.inl ix), ie_infi32 hy iy, ie_fin32 hx (fin_of32 nx ix)]
      show some (Ieee.single.write (.infinity (neg32 y))) = _
      rw [ie_writei32, sgn_inf32 hy iy]
  · cases iy : isInf32 y
    · rw [add_il32 nx ny ix (.inl iy), ie_infi32 hx ix, ie_fin32 hy (fin_of32 ny iy)]
      show some (Ieee.single.write (.infinity (neg32 x))) = _
      rw [ie_writei32, sgn_inf32 hx ix]
    · have e := hi ix iy
      rw [add_il32 nx ny ix (.inr e), ← e, ie_infi32 hx ix]
      show Option.map _ (if neg32 x = neg32 x then some (Ieee.Datum.infinity (neg32 x)) else none) = _
      rw [if_pos rfl]
      show some (Ieee.single.write (.infinity (neg32 x))) = _
      rw [ie_writei32, sgn_inf32 hx ix]
theorem ie_sum_none32 {x y : Nat} (hx : x < 4294967296) (hy : y < 4294967296) (hn : isNaN32 (add32 x y) = true) : ((Ieee.single.read x).sum (Ieee.single.read y)).map Ieee.single.write = none := by
  cases nx : isNaN32 x
  · cases ny : isNaN32 y
    · cases ix : isInf32 x
      · cases iy : isInf32 y
        · rw [add_ff32 (fin_of32 nx ix) (fin_of32 ny iy), nan_addf32] at hn; cases hn
        · rw [add_ir32 nx ny iy (.inl ix), ny] at hn; cases hn
      · cases iy : isInf32 y
        · rw [add_il32 nx ny ix (.inl iy), nx] at hn; cases hn
        · by_cases he : neg32 x = neg32 y
          · have hxy : x = y := bits_eq32 hx hy he (by rw [inf_iff32.mp ix, inf_iff32.mp iy])
            rw [add_il32 nx ny ix (.inr hxy), nx] at hn; cases hn
          · rw [ie_infi32 hx ix, ie_infi32 hy iy]
            show Option.map _ (if neg32 x = neg32 y then some (Ieee.Datum.infinity (neg32 x)) else none) = _
            rw [if_neg he]; rfl
    · rw [ie_nan32 hy ny]
      cases Ieee.single.read x <;> rfl
  · rw [ie_nan32 hx nx]
    cases Ieee.single.read y <;> rfl
theorem ie_add32 {x y : Nat} (hx : x < 4294967296) (hy : y < 4294967296) : Ieee.single.add x y = if isNaN32 (add32 x y) then none else some (add32 x y) := by
  cases hn : isNaN32 (add32 x y)
  · exact ie_sum32 hx hy hn
  · exact ie_sum_none32 hx hy hn
theorem ie_sub32 {x y : Nat} (hx : x < 4294967296) (hy : y < 4294967296) : Ieee.single.sub x y = if isNaN32 (add32 x (flip32 y)) then none else some (add32 x (flip32 y)) := by
  have h := ie_add32 hx (flip_lt32 y)
  unfold Ieee.Format.add at h
  unfold Ieee.Format.sub
  rw [ie_opp32 hy]; exact h
/-- products -/
theorem ie_zero32 {x : Nat} : sm32 x = 0 ↔ isZero32 x = true := by rw [sm_zero32, zero_iff32]
theorem ie_mul_fin32 {x y : Nat} (hx : x < 4294967296) (hy : y < 4294967296) (fx : fin32 x = true) (fy : fin32 y = true) : Ieee.single.mul x y = some (rd32 (neg32 x != neg32 y) (val32 x * val32 y) (2 ^ 149)) := by
  unfold Ieee.Format.mul
  rw [ie_fin32 hx fx, ie_fin32 hy fy]
  show some (Ieee.single.write (Ieee.Datum.number _ _ _)) = _
  congr 1
  rw [ie_write32 _ _ ((se32 x : Int) + se32 y - 149) (by omega)]
  have hxor : (neg32 x ^^ neg32 y) = (neg32 x != neg32 y) := by cases neg32 x <;> cases neg32 y <;> rfl
  rw [hxor]
  have e : ((se32 x : Int) + se32 y - 149).toNat + 149 = se32 x + se32 y + (-((se32 x : Int) + se32 y - 149)).toNat := by omega
  generalize ((se32 x : Int) + se32 y - 149).toNat = u at *
  generalize (-((se32 x : Int) + se32 y - 149)).toNat = v at *
  have e2 := pow4 (a := u) (b := 149) (c := se32 x) (d := se32 y) (e := v) e
  have hp := two_pow_pos 149
  generalize 2 ^ 149 = p at *
  refine rd_congr32 _ (two_pow_pos v) hp ?_
  rw [val_sm32, val_sm32, Nat.mul_assoc (sm32 x * sm32 y), e2]
  ac_rfl
theorem ie_mul32 {x y : Nat} (hx : x < 4294967296) (hy : y < 4294967296) : Ieee.single.mul x y = if isNaN32 (mul32 x y) then none else some (mul32 x y) := by
  have hq := nq_nan32
  cases nx : isNaN32 x
  · cases ny : isNaN32 y
    · cases ix : isInf32 x
      · have fx := fin_of32 nx ix
        cases iy : isInf32 y
        · have fy := fin_of32 ny iy
          have e : mul32 x y = rd32 (neg32 x != neg32 y) (val32 x * val32 y) (2 ^ 149) := by
            unfold mul32; rw [nx, ny, ix, iy]
            generalize 2 ^ 149 = p
            cases isZero32 x <;> cases isZero32 y <;> rfl
          rw [ie_mul_fin32 hx hy fx fy, e, nan_rd32]; rfl
        · have e : mul32 x y = if isZero32 x then 2143289344 else sgn32 (neg32 x != neg32 y) 2139095040 := by
            unfold mul32; rw [nx, ny, ix, iy]
            generalize 2 ^ 149 = p
            cases isZero32 x <;> cases isZero32 y <;> rfl
          unfold Ieee.Format.mul
          rw [ie_fin32 hx fx, ie_infi32 hy iy, e]
          show Option.map _ (if sm32 x = 0 then none else some (Ieee.Datum.infinity _)) = _
          cases hz : isZero32 x
          · have hs : sm32 x ≠ 0 := fun h => by rw [ie_zero32.mp h] at hz; cases hz
            have hni : isNaN32 (sgn32 (neg32 x != neg32 y) 2139095040) = false := nan_not32.mpr (by rw [mag_sgn32 _ (by omega)]; omega)
            rw [if_neg hs]
            simp only [Bool.false_eq_true, if_false]
            rw [hni]
            simp only [Bool.false_eq_true, if_false]
            show some (Ieee.single.write (.infinity _)) = _
            rw [ie_writei32]
            all_goals (cases neg32 x <;> cases neg32 y <;> rfl)
          · rw [if_pos (ie_zero32.mpr hz)]
            simp only [if_true]
            rw [hq]; rfl
      · cases iy : isInf32 y
        · have fy := fin_of32 ny iy
          have e : mul32 x y = if isZero32 y then 2143289344 else sgn32 (neg32 x != neg32 y) 2139095040 := by
            unfold mul32; rw [nx, ny, ix, iy]
            generalize 2 ^ 149 = p
            cases isZero32 x <;> cases isZero32 y <;> rfl
          unfold Ieee.Format.mul
          rw [ie_fin32 hy fy, ie_infi32 hx ix, e]
          show Option.map _ (if sm32 y = 0 then none else some (Ieee.Datum.infinity _)) = _
          cases hz : isZero32 y
          · have hs : sm32 y ≠ 0 := fun h => by rw [ie_zero32.mp h] at hz; cases hz
            have hni : isNaN32 (sgn32 (neg32 x != neg32 y) 2139095040) = false := nan_not32.mpr (by rw [mag_sgn32 _ (by omega)]; omega)
            rw [if_neg hs]
            simp only [Bool.false_eq_true, if_false]
            rw [hni]
            simp only [Bool.false_eq_true, if_false]
            show some (Ieee.single.write (.infinity _)) = _
            rw [ie_writei32]
            all_goals (cases neg32 x <;> cases neg32 y <;> rfl)
          · rw [if_pos (ie_zero32.mpr hz)]
            simp only [if_true]
            rw [hq]; rfl
        · have hzx : isZero32 x = false := zero_not32.mpr (by rw [inf_iff32.mp ix]; omega)
          have hzy : isZero32 y = false := zero_not32.mpr (by rw [inf_iff32.mp iy]; omega)
          have e : mul32 x y = sgn32 (neg32 x != neg32 y) 2139095040 := by
            unfold mul32; rw [nx, ny, ix, iy, hzx, hzy]; rfl
          have hni : isNaN32 (sgn32 (neg32 x != neg32 y) 2139095040) = false := nan_not32.mpr (by rw [mag_sgn32 _ (by omega)]; omega)
          unfold Ieee.Format.mul
          rw [ie_infi32 hx ix, ie_infi32 hy iy, e, hni]
          simp only [Bool.false_eq_true, if_false]
          show some (Ieee.single.write (.infinity _)) = _
          rw [ie_writei32]
          all_goals (cases neg32 x <;> cases neg32 y <;> rfl)
    · have e : mul32 x y = 2143289344 := by rw [mul_comm32]; exact mul_nl32 ny
      rw [e, hq]
      unfold Ieee.Format.mul
      rw [ie_nan32 hy ny]
      cases Ieee.single.read x <;> rfl
  · rw [mul_nl32 nx, hq]
    unfold Ieee.Format.mul
    rw [ie_nan32 hx nx]
    cases Ieee.single.read y <;> rfl
end Go.Proofs.Ytpjanmahbimhkaa.SF
