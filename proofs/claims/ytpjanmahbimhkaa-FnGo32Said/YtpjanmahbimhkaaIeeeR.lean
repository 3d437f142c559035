/-
  Plain mathematics: the model's quotients and order of floats.
-/
import Derived.Test.YtpjanmahbimhkaaIeeeQ
namespace Go.Proofs.Ytpjanmahbimhkaa.SF
open Go.RowKit
set_option linter.unusedVariables false

/-- how many digits the quotient has -/
theorem quot_digits {m n d : Nat} (hm : m ≠ 0) (hn : n ≠ 0) : 2 ^ d ≤ m <<< (d + 1 + n.log2 - m.log2) / n := by
  have hm2 : 2 ^ m.log2 ≤ m := Nat.log2_self_le hm
  have hn2 : n < 2 ^ (n.log2 + 1) := Nat.lt_log2_self
  rw [Nat.shiftLeft_eq]
  have h1 : 2 ^ (d + 1 + n.log2) ≤ m * 2 ^ (d + 1 + n.log2 - m.log2) := by
    have e1 : 2 ^ (d + 1 + n.log2) ≤ 2 ^ (m.log2 + (d + 1 + n.log2 - m.log2)) := Nat.pow_le_pow_right (by omega) (by omega)
    rw [Nat.pow_add 2 m.log2] at e1
    exact Nat.le_trans e1 (Nat.mul_le_mul_right _ hm2)
  have h2 : 2 ^ d * n ≤ m * 2 ^ (d + 1 + n.log2 - m.log2) := by
    have : 2 ^ d * n ≤ 2 ^ d * 2 ^ (n.log2 + 1) := Nat.mul_le_mul_left _ (Nat.le_of_lt hn2)
    rw [← Nat.pow_add, show d + (n.log2 + 1) = d + 1 + n.log2 by omega] at this
    omega
  exact (Nat.le_div_iff_mul_le (by omega)).mpr h2
theorem quot_num {m n a b more e1 e2 L : Nat} (h : (e1 : Int) - e2 = (a : Int) - b - more - 1 + L) : 2 * (m * 2 ^ more) * 2 ^ e1 * (n * 2 ^ b) = m * 2 ^ a * 2 ^ L * (n * 2 ^ e2) := by
  have e : more + 1 + e1 + b = a + L + e2 := by omega
  have e2' : 2 ^ more * 2 * 2 ^ e1 * 2 ^ b = 2 ^ a * 2 ^ L * 2 ^ e2 := by
    rw [← Nat.pow_add, ← Nat.pow_add, ← e, Nat.pow_add, Nat.pow_add, Nat.pow_add]
  rw [show 2 * (m * 2 ^ more) * 2 ^ e1 * (n * 2 ^ b) = m * n * (2 ^ more * 2 * 2 ^ e1 * 2 ^ b) by ac_rfl, e2']
  ac_rfl
theorem bne_toNat (a : Nat) : (a != 0).toNat = if a = 0 then 0 else 1 := by
  by_cases h : a = 0
  · subst h; rfl
  · rw [if_neg h, show (a != 0) = true from bne_iff_ne.mpr h]; rfl
theorem xor_bne (a b : Bool) : (a ^^ b) = (a != b) := by cases a <;> cases b <;> rfl
theorem ie_div_fin64 {x y : Nat} (hx : x < 18446744073709551616) (hy : y < 18446744073709551616) (fx : fin64 x = true) (fy : fin64 y = true) (zy : isZero64 y = false) : Ieee.double.div x y = some (rd64 (neg64 x != neg64 y) (val64 x * 2 ^ 1074) (val64 y)) := by
  have hn0 : sm64 y ≠ 0 := fun h => by rw [ie_zero64.mp h] at zy; cases zy
  have hvy : 0 < val64 y := by rw [val_sm64]; exact Nat.mul_pos (by omega) (two_pow_pos _)
  unfold Ieee.Format.div
  rw [ie_fin64 hx fx, ie_fin64 hy fy]
  show Option.map _ (if sm64 y = 0 then _ else _) = _
  rw [if_neg hn0]
  show some (Ieee.double.write (Ieee.Datum.number _ _ _)) = _
  congr 1
  obtain ⟨more, hmore⟩ : ∃ more, more = Ieee.double.fractionBits + 2 + (sm64 y).log2 - (sm64 x).log2 := ⟨_, rfl⟩
  rw [← hmore, bne_toNat, ie_write64 _ _ ((se64 x : Int) - se64 y - more - 1 + 1074) (by omega), xor_bne]
  by_cases hm0 : sm64 x = 0
  · have hv : val64 x = 0 := by rw [val_sm64, hm0, Nat.zero_mul]
    have e0 : ∀ p, val64 x * p = 0 := fun p => by rw [hv, Nat.zero_mul]
    rw [e0, hm0, Nat.zero_shiftLeft, Nat.zero_div, Nat.zero_mod, if_pos rfl, Nat.mul_zero, Nat.add_zero, Nat.zero_mul, rd_zero64 _ (two_pow_pos _), rd_zero64 _ hvy]
  · have hd : 2 ^ (52 + 1) ≤ sm64 x <<< more / sm64 y := by
      rw [hmore]; exact quot_digits hm0 hn0
    generalize hE1 : ((se64 x : Int) - se64 y - more - 1 + 1074).toNat = e1
    generalize hE2 : (-((se64 x : Int) - se64 y - more - 1 + 1074)).toNat = e2
    have hr := rn_spec (F := 52) (by omega) ((2 * (sm64 x <<< more / sm64 y) + (if sm64 x <<< more % sm64 y = 0 then 0 else 1)) * 2 ^ e1) (2 ^ e2) (two_pow_pos _)
    have h2 := quot_rnd (by omega) hd hr
    have h3 := rd_eq64 (A := val64 x * 2 ^ 1074) (B := val64 y) (neg64 x != neg64 y) h2 hvy (Nat.mul_pos (by omega) (two_pow_pos _)) (by
      rw [val_sm64, val_sm64, Nat.shiftLeft_eq]
      exact (quot_num (L := 1074) (by omega)).symm)
    rw [h3]
    unfold rd64
    rfl
theorem ie_div64 {x y : Nat} (hx : x < 18446744073709551616) (hy : y < 18446744073709551616) : Ieee.double.div x y = if isNaN64 (div64 x y) then none else some (div64 x y) := by
  have hq := nq_nan64
  have hni : ∀ a : Bool, isNaN64 (sgn64 a 9218868437227405312) = false := fun a => nan_not64.mpr (by rw [mag_sgn64 _ (by omega)]; omega)
  have hnz : ∀ a : Bool, isNaN64 (sgn64 a 0) = false := fun a => nan_not64.mpr (by rw [mag_sgn64 _ (by omega)]; omega)
  cases nx : isNaN64 x
  · cases ny : isNaN64 y
    · cases ix : isInf64 x
      · have fx := fin_of64 nx ix
        cases iy : isInf64 y
        · have fy := fin_of64 ny iy
          cases zy : isZero64 y
          · have e : div64 x y = rd64 (neg64 x != neg64 y) (val64 x * 2 ^ 1074) (val64 y) := by
              unfold div64; rw [nx, ny, ix, iy, zy]
              generalize 2 ^ 1074 = p
              cases isZero64 x <;> rfl
            rw [ie_div_fin64 hx hy fx fy zy, e, nan_rd64]; rfl
          · have e : div64 x y = if isZero64 x then 9221120237041090560 else sgn64 (neg64 x != neg64 y) 9218868437227405312 := by
              unfold div64; rw [nx, ny, ix, iy, zy]
              generalize 2 ^ 1074 = p
              cases isZero64 x <;> rfl
            unfold Ieee.Format.div
            rw [ie_fin64 hx fx, ie_fin64 hy fy, e]
            show Option.map _ (if sm64 y = 0 then (if sm64 x = 0 then none else some (Ieee.Datum.infinity _)) else _) = _
            rw [if_pos (ie_zero64.mpr zy)]
            cases hz : isZero64 x
            · have hs : sm64 x ≠ 0 := fun h => by rw [ie_zero64.mp h] at hz; cases hz
              rw [if_neg hs]
              simp only [Bool.false_eq_true, if_false]
              rw [hni]
              simp only [Bool.false_eq_true, if_false]
              show some (Ieee.double.write (.infinity _)) = _
              rw [ie_writei64, xor_bne]
            · rw [if_pos (ie_zero64.mpr hz)]
              simp only [if_true]
              rw [hq]; rfl
        · have zy : isZero64 y = false := zero_not64.mpr (by rw [inf_iff64.mp iy]; omega)
          have e : div64 x y = sgn64 (neg64 x != neg64 y) 0 := by
            unfold div64; rw [nx, ny, ix, iy, zy]
            generalize 2 ^ 1074 = p
            cases isZero64 x <;> rfl
          unfold Ieee.Format.div
          rw [ie_fin64 hx fx, ie_infi64 hy iy, e, hnz]
          simp only [Bool.false_eq_true, if_false]
          show some (Ieee.double.write (.number _ 0 0)) = _
          rw [ie_write64 _ _ (1074 : Int) (by omega), Nat.zero_mul, rd_zero64 _ (two_pow_pos _), xor_bne]
      · cases iy : isInf64 y
        · have fy := fin_of64 ny iy
          have zx : isZero64 x = false := zero_not64.mpr (by rw [inf_iff64.mp ix]; omega)
          have e : div64 x y = sgn64 (neg64 x != neg64 y) 9218868437227405312 := by
            unfold div64; rw [nx, ny, ix, iy, zx]
            generalize 2 ^ 1074 = p
            cases isZero64 y <;> rfl
          unfold Ieee.Format.div
          rw [ie_fin64 hy fy, ie_infi64 hx ix, e, hni]
          simp only [Bool.false_eq_true, if_false]
          show some (Ieee.double.write (.infinity _)) = _
          rw [ie_writei64, xor_bne]
        · have e : div64 x y = 9221120237041090560 := by
            unfold div64; rw [nx, ny, ix, iy]
            generalize 2 ^ 1074 = p
            cases isZero64 x <;> cases isZero64 y <;> rfl
          unfold Ieee.Format.div
          rw [ie_infi64 hx ix, ie_infi64 hy iy, e, hq]; rfl
    · have e : div64 x y = 9221120237041090560 := by
        unfold div64; rw [nx, ny]
        exact if_pos (by simp)
      rw [e, hq]
      unfold Ieee.Format.div
      rw [ie_nan64 hy ny]
      cases Ieee.double.read x <;> rfl
  · rw [div_nl64 nx, hq]
    unfold Ieee.Format.div
    rw [ie_nan64 hx nx]
    cases Ieee.double.read y <;> rfl
/-- the order -/
theorem ie_order64 {x y : Nat} (hx : x < 18446744073709551616) (hy : y < 18446744073709551616) (nx : isNaN64 x = false) (ny : isNaN64 y = false) : Ieee.double.order x y = some (ordO (key64 x) (key64 y)) := by
  have kx := key_bd64 nx
  have ky := key_bd64 ny
  unfold Ieee.Format.order
  cases ix : isInf64 x
  · have fx := fin_of64 nx ix
    have mx := fin_iff64.mp fx
    cases iy : isInf64 y
    · have fy := fin_of64 ny iy
      rw [ie_fin64 hx fx, ie_fin64 hy fy]
      obtain ⟨lo, hlo⟩ : ∃ lo, lo = min (se64 x) (se64 y) := ⟨_, rfl⟩
      have hb : min (-1074 + (se64 x : Int)) (-1074 + (se64 y : Int)) = -1074 + (lo : Int) := by omega
      show some (compare (Ieee.signed _ _ _) (Ieee.signed _ _ _)) = _
      congr 1
      rw [hb]
      have s1 := signed_part (neg64 x) (sm64 x) (se64 x) lo 1074 (by omega)
      have s2 := signed_part (neg64 y) (sm64 y) (se64 y) lo 1074 (by omega)
      rw [← val_sm64, ← sv_sk64] at s1 s2
      rw [cmp_scale (two_pow_pos lo), s1, s2, cmp_ordO]
      unfold ordO
      simp only [key_sv_lt64, key_sv_eq64]
    · rw [ie_fin64 hx fx, ie_infi64 hy iy]
      show some (if neg64 y then Ordering.gt else Ordering.lt) = _
      have hk := key_inf64 iy
      congr 1
      unfold ordO
      have kx2 : -9218868437227405312 < key64 x ∧ key64 x < 9218868437227405312 := by
        unfold key64 sk; split <;> omega
      cases hn : neg64 y
      · rw [hn] at hk; simp only [sk, Bool.false_eq_true, if_false] at hk
        show Ordering.lt = _
        rw [if_pos (by omega)]
      · rw [hn] at hk; simp only [sk, if_true] at hk
        show Ordering.gt = _
        rw [if_neg (by omega), if_neg (by omega)]
  · have hk := key_inf64 ix
    cases iy : isInf64 y
    · have fy := fin_of64 ny iy
      have my := fin_iff64.mp fy
      rw [ie_infi64 hx ix, ie_fin64 hy fy]
      show some (if neg64 x then Ordering.lt else Ordering.gt) = _
      congr 1
      unfold ordO
      have ky2 : -9218868437227405312 < key64 y ∧ key64 y < 9218868437227405312 := by
        unfold key64 sk; split <;> omega
      cases hn : neg64 x
      · rw [hn] at hk; simp only [sk, Bool.false_eq_true, if_false] at hk
        show Ordering.gt = _
        rw [if_neg (by omega), if_neg (by omega)]
      · rw [hn] at hk; simp only [sk, if_true] at hk
        show Ordering.lt = _
        rw [if_pos (by omega)]
    · have hk2 := key_inf64 iy
      rw [ie_infi64 hx ix, ie_infi64 hy iy, hk, hk2]
      show some (compare (neg64 y).toNat (neg64 x).toNat) = _
      cases neg64 x <;> cases neg64 y <;> rfl
theorem ie_order_nan64 {x y : Nat} (hx : x < 18446744073709551616) (hy : y < 18446744073709551616) (h : isNaN64 x = true ∨ isNaN64 y = true) : Ieee.double.order x y = none := by
  unfold Ieee.Format.order
  rcases h with h | h
  · rw [ie_nan64 hx h]
    cases Ieee.double.read y <;> rfl
  · rw [ie_nan64 hy h]
    cases Ieee.double.read x <;> rfl
theorem ie_div_fin32 {x y : Nat} (hx : x < 4294967296) (hy : y < 4294967296) (fx : fin32 x = true) (fy : fin32 y = true) (zy : isZero32 y = false) : Ieee.single.div x y = some (rd32 (neg32 x != neg32 y) (val32 x * 2 ^ 149) (val32 y)) := by
  have hn0 : sm32 y ≠ 0 := fun h => by rw [ie_zero32.mp h] at zy; cases zy
  have hvy : 0 < val32 y := by rw [val_sm32]; exact Nat.mul_pos (by omega) (two_pow_pos _)
  unfold Ieee.Format.div
  rw [ie_fin32 hx fx, ie_fin32 hy fy]
  show Option.map _ (if sm32 y = 0 then _ else _) = _
  rw [if_neg hn0]
  show some (Ieee.single.write (Ieee.Datum.number _ _ _)) = _
  congr 1
  obtain ⟨more, hmore⟩ : ∃ more, more = Ieee.single.fractionBits + 2 + (sm32 y).log2 - (sm32 x).log2 := ⟨_, rfl⟩
  rw [← hmore, bne_toNat, ie_write32 _ _ ((se32 x : Int) - se32 y - more - 1 + 149) (by omega), xor_bne]
  by_cases hm0 : sm32 x = 0
  · have hv : val32 x = 0 := by rw [val_sm32, hm0, Nat.zero_mul]
    have e0 : ∀ p, val32 x * p = 0 := fun p => by rw [hv, Nat.zero_mul]
    rw [e0, hm0, Nat.zero_shiftLeft, Nat.zero_div, Nat.zero_mod, if_pos rfl, Nat.mul_zero, Nat.add_zero, Nat.zero_mul, rd_zero32 _ (two_pow_pos _), rd_zero32 _ hvy]
  · have hd : 2 ^ (23 + 1) ≤ sm32 x <<< more / sm32 y := by
      rw [hmore]; exact quot_digits hm0 hn0
    generalize hE1 : ((se32 x : Int) - se32 y - more - 1 + 149).toNat = e1
    generalize hE2 : (-((se32 x : Int) - se32 y - more - 1 + 149)).toNat = e2
    have hr := rn_spec (F := 23) (by omega) ((2 * (sm32 x <<< more / sm32 y) + (if sm32 x <<< more % sm32 y = 0 then 0 else 1)) * 2 ^ e1) (2 ^ e2) (two_pow_pos _)
    have h2 := quot_rnd (by omega) hd hr
    have h3 := rd_eq32 (A := val32 x * 2 ^ 149) (B := val32 y) (neg32 x != neg32 y) h2 hvy (Nat.mul_pos (by omega) (two_pow_pos _)) (by
      rw [val_sm32, val_sm32, Nat.shiftLeft_eq]
      exact (quot_num (L := 149) (by omega)).symm)
    rw [h3]
    unfold rd32
    rfl
theorem ie_div32 {x y : Nat} (hx : x < 4294967296) (hy : y < 4294967296) : Ieee.single.div x y = if isNaN32 (div32 x y) then none else some (div32 x y) := by
  have hq := nq_nan32
  have hni : ∀ a : Bool, isNaN32 (sgn32 a 2139095040) = false := fun a => nan_not32.mpr (by rw [mag_sgn32 _ (by omega)]; omega)
  have hnz : ∀ a : Bool, isNaN32 (sgn32 a 0) = false := fun a => nan_not32.mpr (by rw [mag_sgn32 _ (by omega)]; omega)
  cases nx : isNaN32 x
  · cases ny : isNaN32 y
    · cases ix : isInf32 x
      · have fx := fin_of32 nx ix
        cases iy : isInf32 y
        · have fy := fin_of32 ny iy
          cases zy : isZero32 y
          · have e : div32 x y = rd32 (neg32 x != neg32 y) (val32 x * 2 ^ 149) (val32 y) := by
              unfold div32; rw [nx, ny, ix, iy, zy]
              generalize 2 ^ 149 = p
              cases isZero32 x <;> rfl
            rw [ie_div_fin32 hx hy fx fy zy, e, nan_rd32]; rfl
          · have e : div32 x y = if isZero32 x then 2143289344 else sgn32 (neg32 x != neg32 y) 2139095040 := by
              unfold div32; rw [nx, ny, ix, iy, zy]
              generalize 2 ^ 149 = p
              cases isZero32 x <;> rfl
            unfold Ieee.Format.div
            rw [ie_fin32 hx fx, ie_fin32 hy fy, e]
            show Option.map _ (if sm32 y = 0 then (if sm32 x = 0 then none else some (Ieee.Datum.infinity _)) else _) = _
            rw [if_pos (ie_zero32.mpr zy)]
            cases hz : isZero32 x
            · have hs : sm32 x ≠ 0 := fun h => by rw [ie_zero32.mp h] at hz; cases hz
              rw [if_neg hs]
              simp only [Bool.false_eq_true, if_false]
              rw [hni]
              simp only [Bool.false_eq_true, if_false]
              show some (Ieee.single.write (.infinity _)) = _
              rw [ie_writei32, xor_bne]
            · rw [if_pos (ie_zero32.mpr hz)]
              simp only [if_true]
              rw [hq]; rfl
        · have zy : isZero32 y = false := zero_not32.mpr (by rw [inf_iff32.mp iy]; omega)
          have e : div32 x y = sgn32 (neg32 x != neg32 y) 0 := by
            unfold div32; rw [nx, ny, ix, iy, zy]
            generalize 2 ^ 149 = p
            cases isZero32 x <;> rfl
          unfold Ieee.Format.div
          rw [ie_fin32 hx fx, ie_infi32 hy iy, e, hnz]
          simp only [Bool.false_eq_true, if_false]
          show some (Ieee.single.write (.number _ 0 0)) = _
          rw [ie_write32 _ _ (149 : Int) (by omega), Nat.zero_mul, rd_zero32 _ (two_pow_pos _), xor_bne]
      · cases iy : isInf32 y
        · have fy := fin_of32 ny iy
          have zx : isZero32 x = false := zero_not32.mpr (by rw [inf_iff32.mp ix]; omega)
          have e : div32 x y = sgn32 (neg32 x != neg32 y) 2139095040 := by
            unfold div32; rw [nx, ny, ix, iy, zx]
            generalize 2 ^ 149 = p
            cases isZero32 y <;> rfl
          unfold Ieee.Format.div
          rw [ie_fin32 hy fy, ie_infi32 hx ix, e, hni]
          simp only [Bool.false_eq_true, if_false]
          show some (Ieee.single.write (.infinity _)) = _
          rw [ie_writei32, xor_bne]
        · have e : div32 x y = 2143289344 := by
            unfold div32; rw [nx, ny, ix, iy]
            generalize 2 ^ 149 = p
            cases isZero32 x <;> cases isZero32 y <;> rfl
          unfold Ieee.Format.div
          rw [ie_infi32 hx ix, ie_infi32 hy iy, e, hq]; rfl
    · have e : div32 x y = 2143289344 := by
        unfold div32; rw [nx, ny]
        exact if_pos (by simp)
      rw [e, hq]
      unfold Ieee.Format.div
      rw [ie_nan32 hy ny]
      cases Ieee.single.read x <;> rfl
  · rw [div_nl32 nx, hq]
    unfold Ieee.Format.div
    rw [ie_nan32 hx nx]
    cases Ieee.single.read y <;> rfl
/-- the order -/
theorem ie_order32 {x y : Nat} (hx : x < 4294967296) (hy : y < 4294967296) (nx : isNaN32 x = false) (ny : isNaN32 y = false) : Ieee.single.order x y = some (ordO (key32 x) (key32 y)) := by
  have kx := key_bd32 nx
  have ky := key_bd32 ny
  unfold Ieee.Format.order
  cases ix : isInf32 x
  · have fx := fin_of32 nx ix
    have mx := fin_iff32.mp fx
    cases iy : isInf32 y
    · have fy := fin_of32 ny iy
      rw [ie_fin32 hx fx, ie_fin32 hy fy]
      obtain ⟨lo, hlo⟩ : ∃ lo, lo = min (se32 x) (se32 y) := ⟨_, rfl⟩
      have hb : min (-149 + (se32 x : Int)) (-149 + (se32 y : Int)) = -149 + (lo : Int) := by omega
      show some (compare (Ieee.signed _ _ _) (Ieee.signed _ _ _)) = _
      congr 1
      rw [hb]
      have s1 := signed_part (neg32 x) (sm32 x) (se32 x) lo 149 (by omega)
      have s2 := signed_part (neg32 y) (sm32 y) (se32 y) lo 149 (by omega)
      rw [← val_sm32, ← sv_sk32] at s1 s2
      rw [cmp_scale (two_pow_pos lo), s1, s2, cmp_ordO]
      unfold ordO
      simp only [key_sv_lt32, key_sv_eq32]
    · rw [ie_fin32 hx fx, ie_infi32 hy iy]
      show some (if neg32 y then Ordering.gt else Ordering.lt) = _
      have hk := key_inf32 iy
      congr 1
      unfold ordO
      have kx2 : -2139095040 < key32 x ∧ key32 x < 2139095040 := by
        unfold key32 sk; split <;> omega
      cases hn : neg32 y
      · rw [hn] at hk; simp only [sk, Bool.false_eq_true, if_false] at hk
        show Ordering.lt = _
        rw [if_pos (by omega)]
      · rw [hn] at hk; simp only [sk, if_true] at hk
        show Ordering.gt = _
        rw [if_neg (by omega), if_neg (by omega)]
  · have hk := key_inf32 ix
    cases iy : isInf32 y
    · have fy := fin_of32 ny iy
      have my := fin_iff32.mp fy
      rw [ie_infi32 hx ix, ie_fin32 hy fy]
      show some (if neg32 x then Ordering.lt else Ordering.gt) = _
      congr 1
      unfold ordO
      have ky2 : -2139095040 < key32 y ∧ key32 y < 2139095040 := by
        unfold key32 sk; split <;> omega
      cases hn : neg32 x
      · rw [hn] at hk; simp only [sk, Bool.false_eq_true, if_false] at hk
        show Ordering.gt = _
        rw [if_neg (by omega), if_neg (by omega)]
      · rw [hn] at hk; simp only [sk, if_true] at hk
        show Ordering.lt = _
        rw [if_pos (by omega)]
    · have hk2 := key_inf32 iy
      rw [ie_infi32 hx ix, ie_infi32 hy iy, hk, hk2]
      show some (compare (neg32 y).toNat (neg32 x).toNat) = _
      cases neg32 x <;> cases neg32 y <;> rfl
theorem ie_order_nan32 {x y : Nat} (hx : x < 4294967296) (hy : y < 4294967296) (h : isNaN32 x = true ∨ isNaN32 y = true) : Ieee.single.order x y = none := by
  unfold Ieee.Format.order
  rcases h with h | h
  · rw [ie_nan32 hx h]
    cases Ieee.single.read y <;> rfl
  · rw [ie_nan32 hy h]
    cases Ieee.single.read x <;> rfl
end Go.Proofs.Ytpjanmahbimhkaa.SF
