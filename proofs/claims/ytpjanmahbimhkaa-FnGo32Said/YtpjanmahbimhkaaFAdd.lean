/-
  The walk through fadd64.
-/
import Derived.Test.YtpjanmahbimhkaaPackR
namespace Go.Proofs.Ytpjanmahbimhkaa.SF
open Go.ChangeShapes Go.WideShapes Go.ChangeAt Go.RowKit
set_option linter.unusedVariables false

theorem hrd_aux (A n : Nat) : A * (1 * 2 ^ n) = A * 2 ^ n * 1 := by rw [Nat.one_mul, Nat.mul_one]
theorem rep_add (X Y sh t : Nat) (h : sh ≤ t) : Rep (X + Y / 2 ^ sh) (2 ^ t * 1) (Y % 2 ^ sh ≠ 0) (X * 2 ^ t + Y * 2 ^ (t - sh)) := by
  obtain ⟨r1, r2⟩ := rep_div Y sh t h
  have e : (X + Y / 2 ^ sh) * (2 ^ t * 1) = X * 2 ^ t + Y / 2 ^ sh * (2 ^ t * 1) := by rw [Nat.add_mul, Nat.mul_one]
  refine ⟨fun hs => ?_, fun hs => ?_⟩
  · rw [e, r1 hs]
  · have := r2 hs
    rw [e]; omega
theorem rep_sub0 (X Y sh t : Nat) (h : sh ≤ t) (hr : Y % 2 ^ sh = 0) (hX : Y / 2 ^ sh ≤ X) : Rep (X - Y / 2 ^ sh) (2 ^ t * 1) (Y % 2 ^ sh ≠ 0) (X * 2 ^ t - Y * 2 ^ (t - sh)) := by
  obtain ⟨r1, r2⟩ := rep_div Y sh t h
  refine ⟨fun hs => ?_, fun hs => absurd hr hs⟩
  rw [← r1 hs, Nat.sub_mul, Nat.mul_one]
theorem rep_sub1 (X Y sh t : Nat) (h : sh ≤ t) (hr : Y % 2 ^ sh ≠ 0) (hX : Y / 2 ^ sh + 1 ≤ X) : Rep (X - Y / 2 ^ sh - 1) (2 ^ t * 1) (Y % 2 ^ sh ≠ 0) (X * 2 ^ t - Y * 2 ^ (t - sh)) := by
  obtain ⟨r1, r2⟩ := rep_div Y sh t h
  refine ⟨fun hs => absurd hr hs, fun hs => ?_⟩
  have h2 := r2 hs
  have e : (X - Y / 2 ^ sh - 1) * (2 ^ t * 1) = X * 2 ^ t - Y / 2 ^ sh * (2 ^ t * 1) - 2 ^ t := by rw [Nat.sub_mul, Nat.sub_mul, Nat.mul_one, Nat.one_mul]
  have h3 : (Y / 2 ^ sh + 1) * 2 ^ t ≤ X * 2 ^ t := Nat.mul_le_mul_right _ hX
  rw [Nat.add_mul, Nat.one_mul] at h3
  rw [e]
  rw [Nat.mul_one] at *
  omega
theorem add_scale {mx vx t1 t K : Nat} (hv : mx * 2 ^ t1 = vx * 4503599627370496) (ht : t + 54 = t1 + (K + 52)) : mx * 4 * 2 ^ t = vx * 2 ^ (K + 52) := by
  have e1 : mx * 4 * 2 ^ t = mx * 2 ^ (t + 2) := by rw [Nat.pow_add, Nat.mul_assoc, Nat.mul_comm 4]
  rw [e1, show t + 2 = t1 + K by omega, Nat.pow_add, ← Nat.mul_assoc, hv, show (4503599627370496 : Nat) = 2 ^ 52 from rfl, Nat.mul_assoc, ← Nat.pow_add, Nat.add_comm 52 K]
theorem sh_pow {sh : Nat} (h : 3 ≤ sh) : 8 ≤ 2 ^ sh := Nat.pow_le_pow_right (n := 2) (i := 3) (by omega) h
/-- mx is the greater mantissa: X four times it, sh: how much greater its exponent is -/
theorem add_q {mx my sh : Nat} (a1 : 4503599627370496 ≤ mx) (b2 : my < 9007199254740992) (ho : 0 < sh ∨ my ≤ mx) :
    my * 4 / 2 ^ sh ≤ mx * 4 ∧ (my * 4 % 2 ^ sh ≠ 0 → my * 4 / 2 ^ sh + 9007199254740993 ≤ mx * 4) ∧ (0 < sh → my * 4 / 2 ^ sh < mx * 4) := by
  have hd := Nat.div_add_mod (my * 4) (2 ^ sh)
  rcases Nat.lt_or_ge sh 3 with h | h
  · have : sh = 0 ∨ sh = 1 ∨ sh = 2 := by omega
    rcases this with rfl | rfl | rfl
    · simp; omega
    · refine ⟨?_, ?_, ?_⟩ <;> omega
    · refine ⟨?_, ?_, ?_⟩ <;> omega
  · have h8 := sh_pow h
    have : my * 4 / 2 ^ sh ≤ my * 4 / 8 := Nat.div_le_div_left h8 (by omega)
    refine ⟨by omega, fun _ => by omega, fun _ => by omega⟩
theorem add_t {ex ey : Int} {t1 t2 : Nat} (c1 : -1074 ≤ ex) (c2 : ex ≤ 1023) (d1 : -1074 ≤ ey) (ht1 : (t1 : Int) = ex + 1074) (ht2 : (t2 : Int) = ey + 1074) (ho : ey ≤ ex) {sh : Nat} (hsh : ex - ey = (sh : Int)) :
    ∃ t : Nat, (t : Int) = ex - 2 + 1022 + 5000 ∧ 64 ≤ t ∧ sh ≤ t ∧ t + 54 = t1 + (4948 + 52) ∧ (t - sh) + 54 = t2 + (4948 + 52) :=
  ⟨(ex - 2 + 1022 + 5000).toNat, by omega, by omega, by omega, by omega, by omega⟩
theorem add_pst {vx vy mx my t1 t2 sh : Nat} {ex ey : Int} (a1 : 4503599627370496 ≤ mx) (a2 : mx < 9007199254740992) (b2 : my < 9007199254740992)
    (c1 : -1074 ≤ ex) (c2 : ex ≤ 1023) (d1 : -1074 ≤ ey) (ht1 : (t1 : Int) = ex + 1074) (ht2 : (t2 : Int) = ey + 1074) (hv1 : mx * 2 ^ t1 = vx * 4503599627370496) (hv2 : my * 2 ^ t2 = vy * 4503599627370496)
    (ho : ey < ex ∨ (ey = ex ∧ my ≤ mx)) (hsh : ex - ey = (sh : Int)) :
    ∃ t : Nat, 64 ≤ t ∧ PSt64 4503599627370496 5000 ((vx + vy) * 2 ^ 5000) 1 (mx * 4 + my * 4 / 2 ^ sh) (my * 4 % 2 ^ sh) t (ex - 2) ∧
      (my * 4 % 2 ^ sh = 0 → PSt64 4503599627370496 5000 ((vx - vy) * 2 ^ 5000) 1 (mx * 4 - my * 4 / 2 ^ sh) (my * 4 % 2 ^ sh) t (ex - 2)) ∧
      (my * 4 % 2 ^ sh ≠ 0 → PSt64 4503599627370496 5000 ((vx - vy) * 2 ^ 5000) 1 (mx * 4 - my * 4 / 2 ^ sh - 1) (my * 4 % 2 ^ sh) t (ex - 2)) ∧
      my * 4 / 2 ^ sh ≤ mx * 4 ∧ (my * 4 % 2 ^ sh ≠ 0 → my * 4 / 2 ^ sh + 9007199254740993 ≤ mx * 4) ∧ vy ≤ vx ∧ (mx * 4 - my * 4 / 2 ^ sh = 0 → my * 4 % 2 ^ sh = 0 ∧ vx = vy) ∧ (vx = vy → mx * 4 - my * 4 / 2 ^ sh = 0) ∧ my * 4 / 2 ^ sh < 36028797018963968 ∧ my * 4 % 2 ^ sh < 36028797018963968 := by
  obtain ⟨t, h1, h2, h3, h4, h5⟩ := add_t c1 c2 d1 ht1 ht2 (by omega) hsh
  have s1 := add_scale hv1 h4
  have s2 := add_scale hv2 h5
  obtain ⟨q1, q2, q3⟩ := add_q (my := my) (sh := sh) a1 b2 (by omega)
  have ra := rep_add (mx * 4) (my * 4) sh t h3
  have rs0 := rep_sub0 (mx * 4) (my * 4) sh t h3
  have rs1 := rep_sub1 (mx * 4) (my * 4) sh t h3
  have hql : my * 4 / 2 ^ sh ≤ my * 4 := Nat.div_le_self _ _
  have hrl : my * 4 % 2 ^ sh ≤ my * 4 := Nat.mod_le _ _
  have hdm := Nat.div_add_mod (my * 4) (2 ^ sh)
  have hml := Nat.mod_lt (my * 4) (two_pow_pos sh)
  have hpt := two_pow_pos (t - sh)
  have hps := two_pow_pos sh
  have hp5 := two_pow_pos (4948 + 52)
  have et : 2 ^ t = 2 ^ sh * 2 ^ (t - sh) := by rw [← Nat.pow_add]; congr 1; omega
  -- the order of the sizes
  have hle : my * 4 ≤ mx * 4 * 2 ^ sh := by
    rcases ho with ho | ho
    · have h21 : 2 ^ 1 ≤ 2 ^ sh := Nat.pow_le_pow_right (by omega) (by omega)
      have : mx * 4 * 2 ≤ mx * 4 * 2 ^ sh := Nat.mul_le_mul_left _ h21
      omega
    · have : mx * 4 * 1 ≤ mx * 4 * 2 ^ sh := Nat.mul_le_mul_left _ hps
      omega
  have hvle : vy ≤ vx := by
    have : vy * 2 ^ (4948 + 52) ≤ vx * 2 ^ (4948 + 52) := by
      rw [← s1, ← s2, et, ← Nat.mul_assoc]
      exact Nat.mul_le_mul_right _ hle
    exact Nat.le_of_mul_le_mul_right this hp5
  have z1 : mx * 4 - my * 4 / 2 ^ sh = 0 → my * 4 % 2 ^ sh = 0 ∧ vx = vy := by
    intro h
    have hs0 : sh = 0 := by
      rcases Nat.eq_zero_or_pos sh with h' | h'
      · exact h'
      · have := q3 h'; omega
    subst hs0
    rw [Nat.pow_zero, Nat.mod_one, Nat.div_one] at *
    refine ⟨rfl, ?_⟩
    have e : mx * 4 = my * 4 := by omega
    have : vx * 2 ^ (4948 + 52) = vy * 2 ^ (4948 + 52) := by rw [← s1, ← s2, e, Nat.sub_zero]
    exact Nat.eq_of_mul_eq_mul_right hp5 this
  have z2 : vx = vy → mx * 4 - my * 4 / 2 ^ sh = 0 := by
    intro h
    rw [h] at s1
    have e : mx * 4 * 2 ^ sh * 2 ^ (t - sh) = my * 4 * 2 ^ (t - sh) := by rw [Nat.mul_assoc, ← et, s1, s2]
    have e2 := Nat.eq_of_mul_eq_mul_right hpt e
    rw [← e2, Nat.mul_div_cancel _ hps]; omega
  rw [show (5000 : Nat) = 4948 + 52 from rfl]
  rw [Nat.add_mul, Nat.sub_mul, ← s1, ← s2]
  clear hdm hml hle s1 s2 et hv1 hv2
  generalize my * 4 / 2 ^ sh = q at *
  generalize my * 4 % 2 ^ sh = r at *
  exact ⟨t, h2, ⟨ra, by omega, fun _ => by omega, by omega, by omega⟩, fun h => ⟨rs0 h q1, by omega, fun h' => absurd h h', by omega, by omega⟩,
    fun h => ⟨rs1 h (by have := q2 h; omega), by omega, fun _ => by have := q2 h; omega, by omega, by omega⟩, q1, q2, hvle, z1, z2, by omega, by omega⟩

theorem add_fq {u sh : Nat} (hu : u < 9007199254740992) : (u : Int) * 4 / 2 ^ min sh 64 = ((u * 4 / 2 ^ sh : Nat) : Int) := by
  have c : (2 : Int) ^ min sh 64 = ((2 ^ min sh 64 : Nat) : Int) := by simp
  rw [c, show (u : Int) * 4 = ((u * 4 : Nat) : Int) by omega, ← Int.natCast_ediv]
  congr 1
  rcases Nat.lt_or_ge 64 sh with h | h
  · rw [Nat.min_eq_right (by omega), Nat.div_eq_of_lt (by omega), Nat.div_eq_of_lt]
    have : 2 ^ 64 ≤ 2 ^ sh := Nat.pow_le_pow_right (by omega) (by omega)
    omega
  · rw [Nat.min_eq_left h]
theorem add_ft {u sh : Nat} (hu : u < 9007199254740992) : bits .and .u64 ((u : Int) * 4) (IntKind.u64.wrap (IntKind.u64.wrap (2 ^ min sh 64) - 1)) = ((u * 4 % 2 ^ sh : Nat) : Int) := by
  have c : (2 : Int) ^ min sh 64 = ((2 ^ min sh 64 : Nat) : Int) := by simp
  have hm : IntKind.u64.wrap (IntKind.u64.wrap (2 ^ min sh 64) - 1) = ((2 ^ min sh 64 - 1 : Nat) : Int) := by
    rw [c, IntKind.wrap_u64, IntKind.wrap_u64]
    have hp := two_pow_pos (min sh 64)
    have hl : 2 ^ min sh 64 ≤ 2 ^ 64 := Nat.pow_le_pow_right (by omega) (by omega)
    generalize 2 ^ min sh 64 = p at *
    omega
  rw [hm, show (u : Int) * 4 = ((u * 4 : Nat) : Int) by omega]
  have hl : 2 ^ min sh 64 ≤ 2 ^ 64 := Nat.pow_le_pow_right (by omega) (by omega)
  have hp := two_pow_pos (min sh 64)
  rw [u64_and_nat _ _ (by omega) (by omega), Nat.and_two_pow_sub_one_eq_mod]
  congr 1
  rcases Nat.lt_or_ge 64 sh with h | h
  · rw [Nat.min_eq_right (by omega), Nat.mod_eq_of_lt (by omega), Nat.mod_eq_of_lt]
    have : 2 ^ 64 ≤ 2 ^ sh := Nat.pow_le_pow_right (by omega) (by omega)
    omega
  · rw [Nat.min_eq_left h]

theorem val_pos64 {x : Nat} (h : 0 < mag64 x) : 0 < val64 x := by
  rcases Nat.eq_zero_or_pos (val64 x) with h' | h'
  · have := (val_eq_zero 52).mp h'; omega
  · exact h'
theorem val_zero64 {x : Nat} (h : mag64 x = 0) : val64 x = 0 := by unfold val64; rw [h, val_zero]
theorem sv_zero64 {x : Nat} (h : mag64 x = 0) : sv64 x = 0 := by unfold sv64; rw [val_zero64 h]; simp
theorem rd_exact64 {x : Nat} (hx : x < 18446744073709551616) (hf : mag64 x < 9218868437227405312) : rd64 (neg64 x) (val64 x) 1 = x := by
  have h : IsRnd 52 (val64 x * 1) 1 (mag64 x) := IsRnd.exact 52 1 (mag64 x) (by omega)
  rw [Nat.mul_one] at h
  rw [rd_of64 _ h (by omega), Nat.min_eq_left (by omega)]
  exact sgn_mag64 hx
/-- the sum of finite numbers -/
noncomputable def addf64 (x y : Nat) : Nat := if sv64 x + sv64 y = 0 then (if neg64 x && neg64 y then 9223372036854775808 else 0) else rd64 (decide (sv64 x + sv64 y < 0)) (sv64 x + sv64 y).natAbs 1
theorem add_fin64 {x y : Nat} (nx : isNaN64 x = false) (ix : isInf64 x = false) (ny : isNaN64 y = false) (iy : isInf64 y = false) : add64 x y = addf64 x y := by
  unfold add64 addf64
  rw [nx, ix, ny, iy]
  simp only [Bool.or_false, Bool.and_false, Bool.false_and, Bool.false_eq_true, if_false]
theorem addf_zl64 {x y : Nat} (hy : y < 18446744073709551616) (h0 : mag64 x = 0) (h1 : 0 < mag64 y) (h2 : mag64 y < 9218868437227405312) : addf64 x y = y := by
  have hp := val_pos64 h1
  have e := rd_exact64 hy h2
  unfold addf64
  rw [sv_zero64 h0, Int.zero_add]
  unfold sv64
  cases hn : neg64 y
  · rw [hn] at e
    simp only [Bool.false_eq_true, if_false]
    rw [if_neg (by omega), decide_eq_false (by omega)]; exact e
  · rw [hn] at e
    simp only [if_true]
    rw [if_neg (by omega), decide_eq_true (by omega)]; rw [Int.natAbs_neg]; exact e
theorem addf_comm64 (x y : Nat) : addf64 x y = addf64 y x := by
  unfold addf64
  rw [Int.add_comm, Bool.and_comm]
theorem addf_zr64 {x y : Nat} (hx : x < 18446744073709551616) (h0 : mag64 y = 0) (h1 : 0 < mag64 x) (h2 : mag64 x < 9218868437227405312) : addf64 x y = x := by
  rw [addf_comm64]; exact addf_zl64 hx h0 h1 h2
theorem addf_same64 {x y : Nat} (hs : neg64 x = neg64 y) (h1 : 0 < val64 x) : addf64 x y = rd64 (neg64 x) (val64 x + val64 y) 1 := by
  unfold addf64 sv64
  rw [← hs]
  cases neg64 x
  · simp only [Bool.false_eq_true, if_false]
    rw [if_neg (by omega), decide_eq_false (by omega)]; congr 1
  · simp only [if_true]
    rw [if_neg (by omega), decide_eq_true (by omega)]; congr 1; omega
theorem addf_diff64 {x y : Nat} (hs : neg64 x ≠ neg64 y) (h1 : val64 y < val64 x) : addf64 x y = rd64 (neg64 x) (val64 x - val64 y) 1 := by
  have hs' : neg64 y = !neg64 x := by cases h : neg64 x <;> cases h' : neg64 y <;> simp_all
  unfold addf64 sv64
  rw [hs']
  cases neg64 x
  · simp only [Bool.false_eq_true, if_false, Bool.not_false, if_true]
    rw [if_neg (by omega), decide_eq_false (by omega)]; congr 1; omega
  · simp only [if_true, Bool.not_true, Bool.false_eq_true, if_false]
    rw [if_neg (by omega), decide_eq_true (by omega)]; congr 1; omega
theorem addf_eq64 {x y : Nat} (hs : neg64 x ≠ neg64 y) (h1 : val64 x = val64 y) : addf64 x y = 0 := by
  have hs' : neg64 y = !neg64 x := by cases h : neg64 x <;> cases h' : neg64 y <;> simp_all
  unfold addf64 sv64
  rw [hs', h1]
  cases neg64 x
  · rw [if_pos (by simp; omega)]; simp
  · rw [if_pos (by simp; omega)]; simp
theorem addf_zz64 {x y : Nat} (h0 : mag64 x = 0) (h1 : mag64 y = 0) : addf64 x y = if neg64 x && neg64 y then 9223372036854775808 else 0 := by
  unfold addf64
  rw [sv_zero64 h0, sv_zero64 h1]; simp
theorem val_pos32 {x : Nat} (h : 0 < mag32 x) : 0 < val32 x := by
  rcases Nat.eq_zero_or_pos (val32 x) with h' | h'
  · have := (val_eq_zero 23).mp h'; omega
  · exact h'
theorem val_zero32 {x : Nat} (h : mag32 x = 0) : val32 x = 0 := by unfold val32; rw [h, val_zero]
theorem sv_zero32 {x : Nat} (h : mag32 x = 0) : sv32 x = 0 := by unfold sv32; rw [val_zero32 h]; simp
theorem rd_exact32 {x : Nat} (hx : x < 4294967296) (hf : mag32 x < 2139095040) : rd32 (neg32 x) (val32 x) 1 = x := by
  have h : IsRnd 23 (val32 x * 1) 1 (mag32 x) := IsRnd.exact 23 1 (mag32 x) (by omega)
  rw [Nat.mul_one] at h
  rw [rd_of32 _ h (by omega), Nat.min_eq_left (by omega)]
  exact sgn_mag32 hx
/-- the sum of finite numbers -/
noncomputable def addf32 (x y : Nat) : Nat := if sv32 x + sv32 y = 0 then (if neg32 x && neg32 y then 2147483648 else 0) else rd32 (decide (sv32 x + sv32 y < 0)) (sv32 x + sv32 y).natAbs 1
theorem add_fin32 {x y : Nat} (nx : isNaN32 x = false) (ix : isInf32 x = false) (ny : isNaN32 y = false) (iy : isInf32 y = false) : add32 x y = addf32 x y := by
  unfold add32 addf32
  rw [nx, ix, ny, iy]
  simp only [Bool.or_false, Bool.and_false, Bool.false_and, Bool.false_eq_true, if_false]
theorem addf_zl32 {x y : Nat} (hy : y < 4294967296) (h0 : mag32 x = 0) (h1 : 0 < mag32 y) (h2 : mag32 y < 2139095040) : addf32 x y = y := by
  have hp := val_pos32 h1
  have e := rd_exact32 hy h2
  unfold addf32
  rw [sv_zero32 h0, Int.zero_add]
  unfold sv32
  cases hn : neg32 y
  · rw [hn] at e
    simp only [Bool.false_eq_true, if_false]
    rw [if_neg (by omega), decide_eq_false (by omega)]; exact e
  · rw [hn] at e
    simp only [if_true]
    rw [if_neg (by omega), decide_eq_true (by omega)]; rw [Int.natAbs_neg]; exact e
theorem addf_comm32 (x y : Nat) : addf32 x y = addf32 y x := by
  unfold addf32
  rw [Int.add_comm, Bool.and_comm]
theorem addf_zr32 {x y : Nat} (hx : x < 4294967296) (h0 : mag32 y = 0) (h1 : 0 < mag32 x) (h2 : mag32 x < 2139095040) : addf32 x y = x := by
  rw [addf_comm32]; exact addf_zl32 hx h0 h1 h2
theorem addf_same32 {x y : Nat} (hs : neg32 x = neg32 y) (h1 : 0 < val32 x) : addf32 x y = rd32 (neg32 x) (val32 x + val32 y) 1 := by
  unfold addf32 sv32
  rw [← hs]
  cases neg32 x
  · simp only [Bool.false_eq_true, if_false]
    rw [if_neg (by omega), decide_eq_false (by omega)]; congr 1
  · simp only [if_true]
    rw [if_neg (by omega), decide_eq_true (by omega)]; congr 1; omega
theorem addf_diff32 {x y : Nat} (hs : neg32 x ≠ neg32 y) (h1 : val32 y < val32 x) : addf32 x y = rd32 (neg32 x) (val32 x - val32 y) 1 := by
  have hs' : neg32 y = !neg32 x := by cases h : neg32 x <;> cases h' : neg32 y <;> simp_all
  unfold addf32 sv32
  rw [hs']
  cases neg32 x
  · simp only [Bool.false_eq_true, if_false, Bool.not_false, if_true]
    rw [if_neg (by omega), decide_eq_false (by omega)]; congr 1; omega
  · simp only [if_true, Bool.not_true, Bool.false_eq_true, if_false]
    rw [if_neg (by omega), decide_eq_true (by omega)]; congr 1; omega
theorem addf_eq32 {x y : Nat} (hs : neg32 x ≠ neg32 y) (h1 : val32 x = val32 y) : addf32 x y = 0 := by
  have hs' : neg32 y = !neg32 x := by cases h : neg32 x <;> cases h' : neg32 y <;> simp_all
  unfold addf32 sv32
  rw [hs', h1]
  cases neg32 x
  · rw [if_pos (by simp; omega)]; simp
  · rw [if_pos (by simp; omega)]; simp
theorem addf_zz32 {x y : Nat} (h0 : mag32 x = 0) (h1 : mag32 y = 0) : addf32 x y = if neg32 x && neg32 y then 2147483648 else 0 := by
  unfold addf32
  rw [sv_zero32 h0, sv_zero32 h1]; simp


set_option maxRecDepth 100000 in
set_option maxHeartbeats 4000000 in
theorem fadd64_lt (x y : Nat) (w : World) (hx : x < 18446744073709551616) (hy : y < 18446744073709551616) (gx1 : 0 < mag64 x) (gx2 : mag64 x < 9218868437227405312) (gy1 : 0 < mag64 y) (gy2 : mag64 y < 9218868437227405312)
    (mx1 : 4503599627370496 ≤ um64 x) (mx2 : um64 x < 9007199254740992) (ex1 : -1074 ≤ ue64 x) (ex2 : ue64 x ≤ 1023) (t1 : Nat) (et1 : (t1 : Int) = ue64 x + 1074) (vt1 : um64 x * 2 ^ t1 = val64 x * 4503599627370496)
    (my1 : 4503599627370496 ≤ um64 y) (my2 : um64 y < 9007199254740992) (ey1 : -1074 ≤ ue64 y) (ey2 : ue64 y ≤ 1023) (t2 : Nat) (et2 : (t2 : Int) = ue64 y + 1074) (vt2 : um64 y * 2 ^ t2 = val64 y * 4503599627370496)
    (H1 : Calls Try.prog 93 #[.int .u64 (x : Int)] w fun e w' => e = .returned (.tuple #[.int .u64 ((sgn64 (neg64 x) 0 : Nat) : Int), .int .u64 (um64 x : Int), .int .i64 (ue64 x), .bool false, .bool false]) ∧ w = w')
    (H2 : Calls Try.prog 93 #[.int .u64 (y : Int)] w fun e w' => e = .returned (.tuple #[.int .u64 ((sgn64 (neg64 y) 0 : Nat) : Int), .int .u64 (um64 y : Int), .int .i64 (ue64 y), .bool false, .bool false]) ∧ w = w') (ho : ue64 x < ue64 y) :
    Calls Try.prog 83 #[.int .u64 (x : Int), .int .u64 (y : Int)] w (RetW (.int .u64 (addf64 x y : Int)) w) := by
  have vpx := val_pos64 gx1
  have vpy := val_pos64 gy1
  have e1 : ((um64 x : Int) == 0) = false := beq_eq_false_iff_ne.mpr (by omega)
  have e2 : ((um64 y : Int) == 0) = false := beq_eq_false_iff_ne.mpr (by omega)
  clear gx1 gx2 gy1 gy2
  obtain ⟨sh, hsh⟩ : ∃ sh : Nat, ue64 y - ue64 x = (sh : Int) := ⟨(ue64 y - ue64 x).toNat, by omega⟩
  obtain ⟨t, ht64, p1, p2, p3, q1, q2, hvle, z1, z2, l1, l2⟩ := add_pst my1 my2 mx2 ey1 ey2 ex1 et2 et1 vt2 vt1 (by omega) hsh
  have fq := add_fq (sh := sh) mx2
  have ft := add_ft (sh := sh) mx2
  have vp : 0 < val64 y := vpy
  have HV := Lib.hid hvle
  clear vt1 vt2 et1 et2 hvle
  generalize um64 x * 4 / 2 ^ sh = q at *
  generalize um64 x * 4 % 2 ^ sh = r at *
  have hrd : ∀ A : Nat, A * (1 * 2 ^ 5000) = A * 2 ^ 5000 * 1 := fun A => hrd_aux A 5000
  by_cases hs : neg64 y = neg64 x
  · rw [addf_comm64 x y, addf_same64 hs vp]
    have HP := fpackR64 (neg64 y) (um64 y * 4 + q) r (ue64 y - 2) _ 1 5000 t (val64 y + val64 x) 1 w (by omega) (by omega) (by omega) ht64 (by omega) p1 (by omega) (hrd _)
    have fw : IntKind.u64.wrap ((um64 y : Int) * 4 + (q : Int)) = ((um64 y * 4 + q : Nat) : Int) := by rw [IntKind.wrap_u64]; omega
    have fz : (((um64 y * 4 + q : Nat) : Int) == 0) = false := beq_eq_false_iff_ne.mpr (by omega)
    have hseq : (((sgn64 (neg64 y) 0 : Nat) : Int) == ((sgn64 (neg64 x) 0 : Nat) : Int)) = true := by rw [hs]; simp
    generalize um64 y * 4 + q = M at *
    generalize rd64 (neg64 y) (val64 y + val64 x) 1 = R at *
    generalize um64 x = ux at *
    generalize um64 y = uy at *
    generalize ue64 x = exx at *
    generalize ue64 y = eyy at *
    generalize sgn64 (neg64 x) 0 = sgx at *
    generalize sgn64 (neg64 y) 0 = sgy at *
    have G3 := Lib.hid HP
    have G1 := Lib.hid H1
    have G2 := Lib.hid H2
    clear H1 H2 HP hx hy p1 p2 p3 q1 q2 z1 z2 vp vpx vpy hs hrd ht64 l1 l2
    go_enter Try.func83, Try.ntmps83
    go_wp2_with fail
    refine (G1.out).mono ?_
    rintro e w' ⟨rfl, rfl⟩
    go_wp2_with fail
    refine (G2.out).mono ?_
    rintro e w' ⟨rfl, rfl⟩
    go_wp2_with fail
    refine (G3.out).mono ?_
    rintro e w' ⟨rfl, rfl⟩
    go_wp2_with fail
    go_ret
    exact ⟨rfl, rfl⟩
  · have hseq : (((sgn64 (neg64 y) 0 : Nat) : Int) == ((sgn64 (neg64 x) 0 : Nat) : Int)) = false := by
      revert hs
      cases neg64 x <;> cases neg64 y <;> decide
    by_cases hr : r = 0
    · have fr : ((r : Int) != 0) = false := by simp [hr]
      have fw : IntKind.u64.wrap ((um64 y : Int) * 4 - (q : Int)) = ((um64 y * 4 - q : Nat) : Int) := by rw [IntKind.wrap_u64]; omega
      by_cases hM : um64 y * 4 - q = 0
      · have hv : val64 y = val64 x := (z1 hM).2
        rw [addf_eq64 (fun h => hs h.symm) hv.symm]
        rw [hM] at fw
        have HP := fpackZ64 false r (ue64 y - 2) w
        generalize um64 x = ux at *
        generalize um64 y = uy at *
        generalize ue64 x = exx at *
        generalize ue64 y = eyy at *
        generalize sgn64 (neg64 x) 0 = sgx at *
        generalize sgn64 (neg64 y) 0 = sgy at *
        have G3 : Hid (Calls Try.prog 104 #[.int .u64 0, .int .u64 0, .int .i64 (eyy - 2), .int .u64 (r : Int)] w (RetW (.int .u64 0) w)) := Lib.hid HP
        have G1 := Lib.hid H1
        have G2 := Lib.hid H2
        clear H1 H2 HP hx hy p1 p2 p3 q1 q2 z1 z2 vp vpx vpy hs hrd ht64 hr hM hv l1 l2
        go_enter Try.func83, Try.ntmps83
        go_wp2_with fail
        refine (G1.out).mono ?_
        rintro e w' ⟨rfl, rfl⟩
        go_wp2_with fail
        refine (G2.out).mono ?_
        rintro e w' ⟨rfl, rfl⟩
        go_wp2_with fail
        refine (G3.out).mono ?_
        rintro e w' ⟨rfl, rfl⟩
        go_wp2_with fail
        go_ret
        exact ⟨rfl, rfl⟩
      · have hv : val64 x < val64 y := by
          have h1 : val64 y ≠ val64 x := fun h => hM (z2 h)
          have h2 := HV.out
          omega
        rw [addf_comm64 x y, addf_diff64 (fun h => hs h) hv]
        have HP := fpackR64 (neg64 y) (um64 y * 4 - q) r (ue64 y - 2) _ 1 5000 t (val64 y - val64 x) 1 w (by omega) (by omega) (by omega) ht64 (by omega) (p2 hr) (by omega) (hrd _)
        have fz : (((um64 y * 4 - q : Nat) : Int) == 0) = false := beq_eq_false_iff_ne.mpr (by omega)
        generalize um64 y * 4 - q = M at *
        generalize rd64 (neg64 y) (val64 y - val64 x) 1 = R at *
        generalize um64 x = ux at *
        generalize um64 y = uy at *
        generalize ue64 x = exx at *
        generalize ue64 y = eyy at *
        generalize sgn64 (neg64 x) 0 = sgx at *
        generalize sgn64 (neg64 y) 0 = sgy at *
        have G3 := Lib.hid HP
        have G1 := Lib.hid H1
        have G2 := Lib.hid H2
        clear H1 H2 HP hx hy p1 p2 p3 q1 q2 z1 z2 vp vpx vpy hs hrd ht64 hr hM hv l1 l2
        go_enter Try.func83, Try.ntmps83
        go_wp2_with fail
        refine (G1.out).mono ?_
        rintro e w' ⟨rfl, rfl⟩
        go_wp2_with fail
        refine (G2.out).mono ?_
        rintro e w' ⟨rfl, rfl⟩
        go_wp2_with fail
        refine (G3.out).mono ?_
        rintro e w' ⟨rfl, rfl⟩
        go_wp2_with fail
        go_ret
        exact ⟨rfl, rfl⟩
    · have fr : ((r : Int) != 0) = true := by simp [hr]
      have hq := q2 hr
      have hv : val64 x < val64 y := by
        have h1 : val64 y ≠ val64 x := fun h => by have := z2 h; omega
        have h2 := HV.out
        omega
      rw [addf_comm64 x y, addf_diff64 (fun h => hs h) hv]
      have HP := fpackR64 (neg64 y) (um64 y * 4 - q - 1) r (ue64 y - 2) _ 1 5000 t (val64 y - val64 x) 1 w (by omega) (by omega) (by omega) ht64 (by omega) (p3 hr) (by omega) (hrd _)
      have fw : IntKind.u64.wrap ((um64 y : Int) * 4 - (q : Int)) = ((um64 y * 4 - q : Nat) : Int) := by rw [IntKind.wrap_u64]; omega
      have fw2 : IntKind.u64.wrap (((um64 y * 4 - q : Nat) : Int) - 1) = ((um64 y * 4 - q - 1 : Nat) : Int) := by rw [IntKind.wrap_u64]; omega
      have fz : (((um64 y * 4 - q - 1 : Nat) : Int) == 0) = false := beq_eq_false_iff_ne.mpr (by omega)
      generalize um64 y * 4 - q - 1 = M at *
      generalize um64 y * 4 - q = M1 at *
      generalize rd64 (neg64 y) (val64 y - val64 x) 1 = R at *
      generalize um64 x = ux at *
      generalize um64 y = uy at *
      generalize ue64 x = exx at *
      generalize ue64 y = eyy at *
      generalize sgn64 (neg64 x) 0 = sgx at *
      generalize sgn64 (neg64 y) 0 = sgy at *
      have G3 := Lib.hid HP
      have G1 := Lib.hid H1
      have G2 := Lib.hid H2
      clear H1 H2 HP hx hy p1 p2 p3 q1 q2 z1 z2 vp vpx vpy hs hrd ht64 hr hv hq l1 l2
      go_enter Try.func83, Try.ntmps83
      go_wp2_with fail
      refine (G1.out).mono ?_
      rintro e w' ⟨rfl, rfl⟩
      go_wp2_with fail
      refine (G2.out).mono ?_
      rintro e w' ⟨rfl, rfl⟩
      go_wp2_with fail
      refine (G3.out).mono ?_
      rintro e w' ⟨rfl, rfl⟩
      go_wp2_with fail
      go_ret
      exact ⟨rfl, rfl⟩
set_option maxRecDepth 100000 in
set_option maxHeartbeats 4000000 in
theorem fadd64_el (x y : Nat) (w : World) (hx : x < 18446744073709551616) (hy : y < 18446744073709551616) (gx1 : 0 < mag64 x) (gx2 : mag64 x < 9218868437227405312) (gy1 : 0 < mag64 y) (gy2 : mag64 y < 9218868437227405312)
    (mx1 : 4503599627370496 ≤ um64 x) (mx2 : um64 x < 9007199254740992) (ex1 : -1074 ≤ ue64 x) (ex2 : ue64 x ≤ 1023) (t1 : Nat) (et1 : (t1 : Int) = ue64 x + 1074) (vt1 : um64 x * 2 ^ t1 = val64 x * 4503599627370496)
    (my1 : 4503599627370496 ≤ um64 y) (my2 : um64 y < 9007199254740992) (ey1 : -1074 ≤ ue64 y) (ey2 : ue64 y ≤ 1023) (t2 : Nat) (et2 : (t2 : Int) = ue64 y + 1074) (vt2 : um64 y * 2 ^ t2 = val64 y * 4503599627370496)
    (H1 : Calls Try.prog 93 #[.int .u64 (x : Int)] w fun e w' => e = .returned (.tuple #[.int .u64 ((sgn64 (neg64 x) 0 : Nat) : Int), .int .u64 (um64 x : Int), .int .i64 (ue64 x), .bool false, .bool false]) ∧ w = w')
    (H2 : Calls Try.prog 93 #[.int .u64 (y : Int)] w fun e w' => e = .returned (.tuple #[.int .u64 ((sgn64 (neg64 y) 0 : Nat) : Int), .int .u64 (um64 y : Int), .int .i64 (ue64 y), .bool false, .bool false]) ∧ w = w') (ho : ue64 x = ue64 y) (hm : um64 x < um64 y) :
    Calls Try.prog 83 #[.int .u64 (x : Int), .int .u64 (y : Int)] w (RetW (.int .u64 (addf64 x y : Int)) w) := by
  have vpx := val_pos64 gx1
  have vpy := val_pos64 gy1
  have e1 : ((um64 x : Int) == 0) = false := beq_eq_false_iff_ne.mpr (by omega)
  have e2 : ((um64 y : Int) == 0) = false := beq_eq_false_iff_ne.mpr (by omega)
  clear gx1 gx2 gy1 gy2
  obtain ⟨sh, hsh⟩ : ∃ sh : Nat, ue64 y - ue64 x = (sh : Int) := ⟨(ue64 y - ue64 x).toNat, by omega⟩
  obtain ⟨t, ht64, p1, p2, p3, q1, q2, hvle, z1, z2, l1, l2⟩ := add_pst my1 my2 mx2 ey1 ey2 ex1 et2 et1 vt2 vt1 (by omega) hsh
  have fq := add_fq (sh := sh) mx2
  have ft := add_ft (sh := sh) mx2
  have vp : 0 < val64 y := vpy
  have HV := Lib.hid hvle
  clear vt1 vt2 et1 et2 hvle
  generalize um64 x * 4 / 2 ^ sh = q at *
  generalize um64 x * 4 % 2 ^ sh = r at *
  have hrd : ∀ A : Nat, A * (1 * 2 ^ 5000) = A * 2 ^ 5000 * 1 := fun A => hrd_aux A 5000
  have d1 : decide (ue64 x < ue64 y) = false := decide_eq_false (by omega)
  have d2 : (ue64 x == ue64 y) = true := beq_iff_eq.mpr ho
  rw [Nat.min_eq_left (show sh ≤ 64 by omega)] at fq ft
  clear ho
  by_cases hs : neg64 y = neg64 x
  · rw [addf_comm64 x y, addf_same64 hs vp]
    have HP := fpackR64 (neg64 y) (um64 y * 4 + q) r (ue64 y - 2) _ 1 5000 t (val64 y + val64 x) 1 w (by omega) (by omega) (by omega) ht64 (by omega) p1 (by omega) (hrd _)
    have fw : IntKind.u64.wrap ((um64 y : Int) * 4 + (q : Int)) = ((um64 y * 4 + q : Nat) : Int) := by rw [IntKind.wrap_u64]; omega
    have fz : (((um64 y * 4 + q : Nat) : Int) == 0) = false := beq_eq_false_iff_ne.mpr (by omega)
    have hseq : (((sgn64 (neg64 y) 0 : Nat) : Int) == ((sgn64 (neg64 x) 0 : Nat) : Int)) = true := by rw [hs]; simp
    generalize um64 y * 4 + q = M at *
    generalize rd64 (neg64 y) (val64 y + val64 x) 1 = R at *
    generalize um64 x = ux at *
    generalize um64 y = uy at *
    generalize ue64 x = exx at *
    generalize ue64 y = eyy at *
    generalize sgn64 (neg64 x) 0 = sgx at *
    generalize sgn64 (neg64 y) 0 = sgy at *
    have G3 := Lib.hid HP
    have G1 := Lib.hid H1
    have G2 := Lib.hid H2
    clear H1 H2 HP hx hy p1 p2 p3 q1 q2 z1 z2 vp vpx vpy hs hrd ht64 l1 l2
    go_enter Try.func83, Try.ntmps83
    go_wp2_with fail
    refine (G1.out).mono ?_
    rintro e w' ⟨rfl, rfl⟩
    go_wp2_with fail
    refine (G2.out).mono ?_
    rintro e w' ⟨rfl, rfl⟩
    go_wp2_with fail
    refine (G3.out).mono ?_
    rintro e w' ⟨rfl, rfl⟩
    go_wp2_with fail
    go_ret
    exact ⟨rfl, rfl⟩
  · have hseq : (((sgn64 (neg64 y) 0 : Nat) : Int) == ((sgn64 (neg64 x) 0 : Nat) : Int)) = false := by
      revert hs
      cases neg64 x <;> cases neg64 y <;> decide
    by_cases hr : r = 0
    · have fr : ((r : Int) != 0) = false := by simp [hr]
      have fw : IntKind.u64.wrap ((um64 y : Int) * 4 - (q : Int)) = ((um64 y * 4 - q : Nat) : Int) := by rw [IntKind.wrap_u64]; omega
      by_cases hM : um64 y * 4 - q = 0
      · have hv : val64 y = val64 x := (z1 hM).2
        rw [addf_eq64 (fun h => hs h.symm) hv.symm]
        rw [hM] at fw
        have HP := fpackZ64 false r (ue64 y - 2) w
        generalize um64 x = ux at *
        generalize um64 y = uy at *
        generalize ue64 x = exx at *
        generalize ue64 y = eyy at *
        generalize sgn64 (neg64 x) 0 = sgx at *
        generalize sgn64 (neg64 y) 0 = sgy at *
        have G3 : Hid (Calls Try.prog 104 #[.int .u64 0, .int .u64 0, .int .i64 (eyy - 2), .int .u64 (r : Int)] w (RetW (.int .u64 0) w)) := Lib.hid HP
        have G1 := Lib.hid H1
        have G2 := Lib.hid H2
        clear H1 H2 HP hx hy p1 p2 p3 q1 q2 z1 z2 vp vpx vpy hs hrd ht64 hr hM hv l1 l2
        go_enter Try.func83, Try.ntmps83
        go_wp2_with fail
        refine (G1.out).mono ?_
        rintro e w' ⟨rfl, rfl⟩
        go_wp2_with fail
        refine (G2.out).mono ?_
        rintro e w' ⟨rfl, rfl⟩
        go_wp2_with fail
        refine (G3.out).mono ?_
        rintro e w' ⟨rfl, rfl⟩
        go_wp2_with fail
        go_ret
        exact ⟨rfl, rfl⟩
      · have hv : val64 x < val64 y := by
          have h1 : val64 y ≠ val64 x := fun h => hM (z2 h)
          have h2 := HV.out
          omega
        rw [addf_comm64 x y, addf_diff64 (fun h => hs h) hv]
        have HP := fpackR64 (neg64 y) (um64 y * 4 - q) r (ue64 y - 2) _ 1 5000 t (val64 y - val64 x) 1 w (by omega) (by omega) (by omega) ht64 (by omega) (p2 hr) (by omega) (hrd _)
        have fz : (((um64 y * 4 - q : Nat) : Int) == 0) = false := beq_eq_false_iff_ne.mpr (by omega)
        generalize um64 y * 4 - q = M at *
        generalize rd64 (neg64 y) (val64 y - val64 x) 1 = R at *
        generalize um64 x = ux at *
        generalize um64 y = uy at *
        generalize ue64 x = exx at *
        generalize ue64 y = eyy at *
        generalize sgn64 (neg64 x) 0 = sgx at *
        generalize sgn64 (neg64 y) 0 = sgy at *
        have G3 := Lib.hid HP
        have G1 := Lib.hid H1
        have G2 := Lib.hid H2
        clear H1 H2 HP hx hy p1 p2 p3 q1 q2 z1 z2 vp vpx vpy hs hrd ht64 hr hM hv l1 l2
        go_enter Try.func83, Try.ntmps83
        go_wp2_with fail
        refine (G1.out).mono ?_
        rintro e w' ⟨rfl, rfl⟩
        go_wp2_with fail
        refine (G2.out).mono ?_
        rintro e w' ⟨rfl, rfl⟩
        go_wp2_with fail
        refine (G3.out).mono ?_
        rintro e w' ⟨rfl, rfl⟩
        go_wp2_with fail
        go_ret
        exact ⟨rfl, rfl⟩
    · have fr : ((r : Int) != 0) = true := by simp [hr]
      have hq := q2 hr
      have hv : val64 x < val64 y := by
        have h1 : val64 y ≠ val64 x := fun h => by have := z2 h; omega
        have h2 := HV.out
        omega
      rw [addf_comm64 x y, addf_diff64 (fun h => hs h) hv]
      have HP := fpackR64 (neg64 y) (um64 y * 4 - q - 1) r (ue64 y - 2) _ 1 5000 t (val64 y - val64 x) 1 w (by omega) (by omega) (by omega) ht64 (by omega) (p3 hr) (by omega) (hrd _)
      have fw : IntKind.u64.wrap ((um64 y : Int) * 4 - (q : Int)) = ((um64 y * 4 - q : Nat) : Int) := by rw [IntKind.wrap_u64]; omega
      have fw2 : IntKind.u64.wrap (((um64 y * 4 - q : Nat) : Int) - 1) = ((um64 y * 4 - q - 1 : Nat) : Int) := by rw [IntKind.wrap_u64]; omega
      have fz : (((um64 y * 4 - q - 1 : Nat) : Int) == 0) = false := beq_eq_false_iff_ne.mpr (by omega)
      generalize um64 y * 4 - q - 1 = M at *
      generalize um64 y * 4 - q = M1 at *
      generalize rd64 (neg64 y) (val64 y - val64 x) 1 = R at *
      generalize um64 x = ux at *
      generalize um64 y = uy at *
      generalize ue64 x = exx at *
      generalize ue64 y = eyy at *
      generalize sgn64 (neg64 x) 0 = sgx at *
      generalize sgn64 (neg64 y) 0 = sgy at *
      have G3 := Lib.hid HP
      have G1 := Lib.hid H1
      have G2 := Lib.hid H2
      clear H1 H2 HP hx hy p1 p2 p3 q1 q2 z1 z2 vp vpx vpy hs hrd ht64 hr hv hq l1 l2
      go_enter Try.func83, Try.ntmps83
      go_wp2_with fail
      refine (G1.out).mono ?_
      rintro e w' ⟨rfl, rfl⟩
      go_wp2_with fail
      refine (G2.out).mono ?_
      rintro e w' ⟨rfl, rfl⟩
      go_wp2_with fail
      refine (G3.out).mono ?_
      rintro e w' ⟨rfl, rfl⟩
      go_wp2_with fail
      go_ret
      exact ⟨rfl, rfl⟩
set_option maxRecDepth 100000 in
set_option maxHeartbeats 4000000 in
theorem fadd64_eg (x y : Nat) (w : World) (hx : x < 18446744073709551616) (hy : y < 18446744073709551616) (gx1 : 0 < mag64 x) (gx2 : mag64 x < 9218868437227405312) (gy1 : 0 < mag64 y) (gy2 : mag64 y < 9218868437227405312)
    (mx1 : 4503599627370496 ≤ um64 x) (mx2 : um64 x < 9007199254740992) (ex1 : -1074 ≤ ue64 x) (ex2 : ue64 x ≤ 1023) (t1 : Nat) (et1 : (t1 : Int) = ue64 x + 1074) (vt1 : um64 x * 2 ^ t1 = val64 x * 4503599627370496)
    (my1 : 4503599627370496 ≤ um64 y) (my2 : um64 y < 9007199254740992) (ey1 : -1074 ≤ ue64 y) (ey2 : ue64 y ≤ 1023) (t2 : Nat) (et2 : (t2 : Int) = ue64 y + 1074) (vt2 : um64 y * 2 ^ t2 = val64 y * 4503599627370496)
    (H1 : Calls Try.prog 93 #[.int .u64 (x : Int)] w fun e w' => e = .returned (.tuple #[.int .u64 ((sgn64 (neg64 x) 0 : Nat) : Int), .int .u64 (um64 x : Int), .int .i64 (ue64 x), .bool false, .bool false]) ∧ w = w')
    (H2 : Calls Try.prog 93 #[.int .u64 (y : Int)] w fun e w' => e = .returned (.tuple #[.int .u64 ((sgn64 (neg64 y) 0 : Nat) : Int), .int .u64 (um64 y : Int), .int .i64 (ue64 y), .bool false, .bool false]) ∧ w = w') (ho : ue64 x = ue64 y) (hm : um64 y ≤ um64 x) :
    Calls Try.prog 83 #[.int .u64 (x : Int), .int .u64 (y : Int)] w (RetW (.int .u64 (addf64 x y : Int)) w) := by
  have vpx := val_pos64 gx1
  have vpy := val_pos64 gy1
  have e1 : ((um64 x : Int) == 0) = false := beq_eq_false_iff_ne.mpr (by omega)
  have e2 : ((um64 y : Int) == 0) = false := beq_eq_false_iff_ne.mpr (by omega)
  clear gx1 gx2 gy1 gy2
  obtain ⟨sh, hsh⟩ : ∃ sh : Nat, ue64 x - ue64 y = (sh : Int) := ⟨(ue64 x - ue64 y).toNat, by omega⟩
  obtain ⟨t, ht64, p1, p2, p3, q1, q2, hvle, z1, z2, l1, l2⟩ := add_pst mx1 mx2 my2 ex1 ex2 ey1 et1 et2 vt1 vt2 (by omega) hsh
  have fq := add_fq (sh := sh) my2
  have ft := add_ft (sh := sh) my2
  have vp : 0 < val64 x := vpx
  have HV := Lib.hid hvle
  clear vt1 vt2 et1 et2 hvle
  generalize um64 y * 4 / 2 ^ sh = q at *
  generalize um64 y * 4 % 2 ^ sh = r at *
  have hrd : ∀ A : Nat, A * (1 * 2 ^ 5000) = A * 2 ^ 5000 * 1 := fun A => hrd_aux A 5000
  have d1 : decide (ue64 x < ue64 y) = false := decide_eq_false (by omega)
  have d2 : (ue64 x == ue64 y) = true := beq_iff_eq.mpr ho
  rw [Nat.min_eq_left (show sh ≤ 64 by omega)] at fq ft
  clear ho
  by_cases hs : neg64 x = neg64 y
  · rw [addf_same64 hs vp]
    have HP := fpackR64 (neg64 x) (um64 x * 4 + q) r (ue64 x - 2) _ 1 5000 t (val64 x + val64 y) 1 w (by omega) (by omega) (by omega) ht64 (by omega) p1 (by omega) (hrd _)
    have fw : IntKind.u64.wrap ((um64 x : Int) * 4 + (q : Int)) = ((um64 x * 4 + q : Nat) : Int) := by rw [IntKind.wrap_u64]; omega
    have fz : (((um64 x * 4 + q : Nat) : Int) == 0) = false := beq_eq_false_iff_ne.mpr (by omega)
    have hseq : (((sgn64 (neg64 x) 0 : Nat) : Int) == ((sgn64 (neg64 y) 0 : Nat) : Int)) = true := by rw [hs]; simp
    generalize um64 x * 4 + q = M at *
    generalize rd64 (neg64 x) (val64 x + val64 y) 1 = R at *
    generalize um64 x = ux at *
    generalize um64 y = uy at *
    generalize ue64 x = exx at *
    generalize ue64 y = eyy at *
    generalize sgn64 (neg64 x) 0 = sgx at *
    generalize sgn64 (neg64 y) 0 = sgy at *
    have G3 := Lib.hid HP
    have G1 := Lib.hid H1
    have G2 := Lib.hid H2
    clear H1 H2 HP hx hy p1 p2 p3 q1 q2 z1 z2 vp vpx vpy hs hrd ht64 l1 l2
    go_enter Try.func83, Try.ntmps83
    go_wp2_with fail
    refine (G1.out).mono ?_
    rintro e w' ⟨rfl, rfl⟩
    go_wp2_with fail
    refine (G2.out).mono ?_
    rintro e w' ⟨rfl, rfl⟩
    go_wp2_with fail
    refine (G3.out).mono ?_
    rintro e w' ⟨rfl, rfl⟩
    go_wp2_with fail
    go_ret
    exact ⟨rfl, rfl⟩
  · have hseq : (((sgn64 (neg64 x) 0 : Nat) : Int) == ((sgn64 (neg64 y) 0 : Nat) : Int)) = false := by
      revert hs
      cases neg64 x <;> cases neg64 y <;> decide
    by_cases hr : r = 0
    · have fr : ((r : Int) != 0) = false := by simp [hr]
      have fw : IntKind.u64.wrap ((um64 x : Int) * 4 - (q : Int)) = ((um64 x * 4 - q : Nat) : Int) := by rw [IntKind.wrap_u64]; omega
      by_cases hM : um64 x * 4 - q = 0
      · have hv : val64 x = val64 y := (z1 hM).2
        rw [addf_eq64 (fun h => hs h) hv]
        rw [hM] at fw
        have HP := fpackZ64 false r (ue64 x - 2) w
        generalize um64 x = ux at *
        generalize um64 y = uy at *
        generalize ue64 x = exx at *
        generalize ue64 y = eyy at *
        generalize sgn64 (neg64 x) 0 = sgx at *
        generalize sgn64 (neg64 y) 0 = sgy at *
        have G3 : Hid (Calls Try.prog 104 #[.int .u64 0, .int .u64 0, .int .i64 (exx - 2), .int .u64 (r : Int)] w (RetW (.int .u64 0) w)) := Lib.hid HP
        have G1 := Lib.hid H1
        have G2 := Lib.hid H2
        clear H1 H2 HP hx hy p1 p2 p3 q1 q2 z1 z2 vp vpx vpy hs hrd ht64 hr hM hv l1 l2
        go_enter Try.func83, Try.ntmps83
        go_wp2_with fail
        refine (G1.out).mono ?_
        rintro e w' ⟨rfl, rfl⟩
        go_wp2_with fail
        refine (G2.out).mono ?_
        rintro e w' ⟨rfl, rfl⟩
        go_wp2_with fail
        refine (G3.out).mono ?_
        rintro e w' ⟨rfl, rfl⟩
        go_wp2_with fail
        go_ret
        exact ⟨rfl, rfl⟩
      · have hv : val64 y < val64 x := by
          have h1 : val64 x ≠ val64 y := fun h => hM (z2 h)
          have h2 := HV.out
          omega
        rw [addf_diff64 (fun h => hs h) hv]
        have HP := fpackR64 (neg64 x) (um64 x * 4 - q) r (ue64 x - 2) _ 1 5000 t (val64 x - val64 y) 1 w (by omega) (by omega) (by omega) ht64 (by omega) (p2 hr) (by omega) (hrd _)
        have fz : (((um64 x * 4 - q : Nat) : Int) == 0) = false := beq_eq_false_iff_ne.mpr (by omega)
        generalize um64 x * 4 - q = M at *
        generalize rd64 (neg64 x) (val64 x - val64 y) 1 = R at *
        generalize um64 x = ux at *
        generalize um64 y = uy at *
        generalize ue64 x = exx at *
        generalize ue64 y = eyy at *
        generalize sgn64 (neg64 x) 0 = sgx at *
        generalize sgn64 (neg64 y) 0 = sgy at *
        have G3 := Lib.hid HP
        have G1 := Lib.hid H1
        have G2 := Lib.hid H2
        clear H1 H2 HP hx hy p1 p2 p3 q1 q2 z1 z2 vp vpx vpy hs hrd ht64 hr hM hv l1 l2
        go_enter Try.func83, Try.ntmps83
        go_wp2_with fail
        refine (G1.out).mono ?_
        rintro e w' ⟨rfl, rfl⟩
        go_wp2_with fail
        refine (G2.out).mono ?_
        rintro e w' ⟨rfl, rfl⟩
        go_wp2_with fail
        refine (G3.out).mono ?_
        rintro e w' ⟨rfl, rfl⟩
        go_wp2_with fail
        go_ret
        exact ⟨rfl, rfl⟩
    · have fr : ((r : Int) != 0) = true := by simp [hr]
      have hq := q2 hr
      have hv : val64 y < val64 x := by
        have h1 : val64 x ≠ val64 y := fun h => by have := z2 h; omega
        have h2 := HV.out
        omega
      rw [addf_diff64 (fun h => hs h) hv]
      have HP := fpackR64 (neg64 x) (um64 x * 4 - q - 1) r (ue64 x - 2) _ 1 5000 t (val64 x - val64 y) 1 w (by omega) (by omega) (by omega) ht64 (by omega) (p3 hr) (by omega) (hrd _)
      have fw : IntKind.u64.wrap ((um64 x : Int) * 4 - (q : Int)) = ((um64 x * 4 - q : Nat) : Int) := by rw [IntKind.wrap_u64]; omega
      have fw2 : IntKind.u64.wrap (((um64 x * 4 - q : Nat) : Int) - 1) = ((um64 x * 4 - q - 1 : Nat) : Int) := by rw [IntKind.wrap_u64]; omega
      have fz : (((um64 x * 4 - q - 1 : Nat) : Int) == 0) = false := beq_eq_false_iff_ne.mpr (by omega)
      generalize um64 x * 4 - q - 1 = M at *
      generalize um64 x * 4 - q = M1 at *
      generalize rd64 (neg64 x) (val64 x - val64 y) 1 = R at *
      generalize um64 x = ux at *
      generalize um64 y = uy at *
      generalize ue64 x = exx at *
      generalize ue64 y = eyy at *
      generalize sgn64 (neg64 x) 0 = sgx at *
      generalize sgn64 (neg64 y) 0 = sgy at *
      have G3 := Lib.hid HP
      have G1 := Lib.hid H1
      have G2 := Lib.hid H2
      clear H1 H2 HP hx hy p1 p2 p3 q1 q2 z1 z2 vp vpx vpy hs hrd ht64 hr hv hq l1 l2
      go_enter Try.func83, Try.ntmps83
      go_wp2_with fail
      refine (G1.out).mono ?_
      rintro e w' ⟨rfl, rfl⟩
      go_wp2_with fail
      refine (G2.out).mono ?_
      rintro e w' ⟨rfl, rfl⟩
      go_wp2_with fail
      refine (G3.out).mono ?_
      rintro e w' ⟨rfl, rfl⟩
      go_wp2_with fail
      go_ret
      exact ⟨rfl, rfl⟩
set_option maxRecDepth 100000 in
set_option maxHeartbeats 4000000 in
theorem fadd64_gt (x y : Nat) (w : World) (hx : x < 18446744073709551616) (hy : y < 18446744073709551616) (gx1 : 0 < mag64 x) (gx2 : mag64 x < 9218868437227405312) (gy1 : 0 < mag64 y) (gy2 : mag64 y < 9218868437227405312)
    (mx1 : 4503599627370496 ≤ um64 x) (mx2 : um64 x < 9007199254740992) (ex1 : -1074 ≤ ue64 x) (ex2 : ue64 x ≤ 1023) (t1 : Nat) (et1 : (t1 : Int) = ue64 x + 1074) (vt1 : um64 x * 2 ^ t1 = val64 x * 4503599627370496)
    (my1 : 4503599627370496 ≤ um64 y) (my2 : um64 y < 9007199254740992) (ey1 : -1074 ≤ ue64 y) (ey2 : ue64 y ≤ 1023) (t2 : Nat) (et2 : (t2 : Int) = ue64 y + 1074) (vt2 : um64 y * 2 ^ t2 = val64 y * 4503599627370496)
    (H1 : Calls Try.prog 93 #[.int .u64 (x : Int)] w fun e w' => e = .returned (.tuple #[.int .u64 ((sgn64 (neg64 x) 0 : Nat) : Int), .int .u64 (um64 x : Int), .int .i64 (ue64 x), .bool false, .bool false]) ∧ w = w')
    (H2 : Calls Try.prog 93 #[.int .u64 (y : Int)] w fun e w' => e = .returned (.tuple #[.int .u64 ((sgn64 (neg64 y) 0 : Nat) : Int), .int .u64 (um64 y : Int), .int .i64 (ue64 y), .bool false, .bool false]) ∧ w = w') (ho : ue64 y < ue64 x) :
    Calls Try.prog 83 #[.int .u64 (x : Int), .int .u64 (y : Int)] w (RetW (.int .u64 (addf64 x y : Int)) w) := by
  have vpx := val_pos64 gx1
  have vpy := val_pos64 gy1
  have e1 : ((um64 x : Int) == 0) = false := beq_eq_false_iff_ne.mpr (by omega)
  have e2 : ((um64 y : Int) == 0) = false := beq_eq_false_iff_ne.mpr (by omega)
  clear gx1 gx2 gy1 gy2
  obtain ⟨sh, hsh⟩ : ∃ sh : Nat, ue64 x - ue64 y = (sh : Int) := ⟨(ue64 x - ue64 y).toNat, by omega⟩
  obtain ⟨t, ht64, p1, p2, p3, q1, q2, hvle, z1, z2, l1, l2⟩ := add_pst mx1 mx2 my2 ex1 ex2 ey1 et1 et2 vt1 vt2 (by omega) hsh
  have fq := add_fq (sh := sh) my2
  have ft := add_ft (sh := sh) my2
  have vp : 0 < val64 x := vpx
  have HV := Lib.hid hvle
  clear vt1 vt2 et1 et2 hvle
  generalize um64 y * 4 / 2 ^ sh = q at *
  generalize um64 y * 4 % 2 ^ sh = r at *
  have hrd : ∀ A : Nat, A * (1 * 2 ^ 5000) = A * 2 ^ 5000 * 1 := fun A => hrd_aux A 5000
  by_cases hs : neg64 x = neg64 y
  · rw [addf_same64 hs vp]
    have HP := fpackR64 (neg64 x) (um64 x * 4 + q) r (ue64 x - 2) _ 1 5000 t (val64 x + val64 y) 1 w (by omega) (by omega) (by omega) ht64 (by omega) p1 (by omega) (hrd _)
    have fw : IntKind.u64.wrap ((um64 x : Int) * 4 + (q : Int)) = ((um64 x * 4 + q : Nat) : Int) := by rw [IntKind.wrap_u64]; omega
    have fz : (((um64 x * 4 + q : Nat) : Int) == 0) = false := beq_eq_false_iff_ne.mpr (by omega)
    have hseq : (((sgn64 (neg64 x) 0 : Nat) : Int) == ((sgn64 (neg64 y) 0 : Nat) : Int)) = true := by rw [hs]; simp
    generalize um64 x * 4 + q = M at *
    generalize rd64 (neg64 x) (val64 x + val64 y) 1 = R at *
    generalize um64 x = ux at *
    generalize um64 y = uy at *
    generalize ue64 x = exx at *
    generalize ue64 y = eyy at *
    generalize sgn64 (neg64 x) 0 = sgx at *
    generalize sgn64 (neg64 y) 0 = sgy at *
    have G3 := Lib.hid HP
    have G1 := Lib.hid H1
    have G2 := Lib.hid H2
    clear H1 H2 HP hx hy p1 p2 p3 q1 q2 z1 z2 vp vpx vpy hs hrd ht64 l1 l2
    go_enter Try.func83, Try.ntmps83
    go_wp2_with fail
    refine (G1.out).mono ?_
    rintro e w' ⟨rfl, rfl⟩
    go_wp2_with fail
    refine (G2.out).mono ?_
    rintro e w' ⟨rfl, rfl⟩
    go_wp2_with fail
    refine (G3.out).mono ?_
    rintro e w' ⟨rfl, rfl⟩
    go_wp2_with fail
    go_ret
    exact ⟨rfl, rfl⟩
  · have hseq : (((sgn64 (neg64 x) 0 : Nat) : Int) == ((sgn64 (neg64 y) 0 : Nat) : Int)) = false := by
      revert hs
      cases neg64 x <;> cases neg64 y <;> decide
    by_cases hr : r = 0
    · have fr : ((r : Int) != 0) = false := by simp [hr]
      have fw : IntKind.u64.wrap ((um64 x : Int) * 4 - (q : Int)) = ((um64 x * 4 - q : Nat) : Int) := by rw [IntKind.wrap_u64]; omega
      by_cases hM : um64 x * 4 - q = 0
      · have hv : val64 x = val64 y := (z1 hM).2
        rw [addf_eq64 (fun h => hs h) hv]
        rw [hM] at fw
        have HP := fpackZ64 false r (ue64 x - 2) w
        generalize um64 x = ux at *
        generalize um64 y = uy at *
        generalize ue64 x = exx at *
        generalize ue64 y = eyy at *
        generalize sgn64 (neg64 x) 0 = sgx at *
        generalize sgn64 (neg64 y) 0 = sgy at *
        have G3 : Hid (Calls Try.prog 104 #[.int .u64 0, .int .u64 0, .int .i64 (exx - 2), .int .u64 (r : Int)] w (RetW (.int .u64 0) w)) := Lib.hid HP
        have G1 := Lib.hid H1
        have G2 := Lib.hid H2
        clear H1 H2 HP hx hy p1 p2 p3 q1 q2 z1 z2 vp vpx vpy hs hrd ht64 hr hM hv l1 l2
        go_enter Try.func83, Try.ntmps83
        go_wp2_with fail
        refine (G1.out).mono ?_
        rintro e w' ⟨rfl, rfl⟩
        go_wp2_with fail
        refine (G2.out).mono ?_
        rintro e w' ⟨rfl, rfl⟩
        go_wp2_with fail
        refine (G3.out).mono ?_
        rintro e w' ⟨rfl, rfl⟩
        go_wp2_with fail
        go_ret
        exact ⟨rfl, rfl⟩
      · have hv : val64 y < val64 x := by
          have h1 : val64 x ≠ val64 y := fun h => hM (z2 h)
          have h2 := HV.out
          omega
        rw [addf_diff64 (fun h => hs h) hv]
        have HP := fpackR64 (neg64 x) (um64 x * 4 - q) r (ue64 x - 2) _ 1 5000 t (val64 x - val64 y) 1 w (by omega) (by omega) (by omega) ht64 (by omega) (p2 hr) (by omega) (hrd _)
        have fz : (((um64 x * 4 - q : Nat) : Int) == 0) = false := beq_eq_false_iff_ne.mpr (by omega)
        generalize um64 x * 4 - q = M at *
        generalize rd64 (neg64 x) (val64 x - val64 y) 1 = R at *
        generalize um64 x = ux at *
        generalize um64 y = uy at *
        generalize ue64 x = exx at *
        generalize ue64 y = eyy at *
        generalize sgn64 (neg64 x) 0 = sgx at *
        generalize sgn64 (neg64 y) 0 = sgy at *
        have G3 := Lib.hid HP
        have G1 := Lib.hid H1
        have G2 := Lib.hid H2
        clear H1 H2 HP hx hy p1 p2 p3 q1 q2 z1 z2 vp vpx vpy hs hrd ht64 hr hM hv l1 l2
        go_enter Try.func83, Try.ntmps83
        go_wp2_with fail
        refine (G1.out).mono ?_
        rintro e w' ⟨rfl, rfl⟩
        go_wp2_with fail
        refine (G2.out).mono ?_
        rintro e w' ⟨rfl, rfl⟩
        go_wp2_with fail
        refine (G3.out).mono ?_
        rintro e w' ⟨rfl, rfl⟩
        go_wp2_with fail
        go_ret
        exact ⟨rfl, rfl⟩
    · have fr : ((r : Int) != 0) = true := by simp [hr]
      have hq := q2 hr
      have hv : val64 y < val64 x := by
        have h1 : val64 x ≠ val64 y := fun h => by have := z2 h; omega
        have h2 := HV.out
        omega
      rw [addf_diff64 (fun h => hs h) hv]
      have HP := fpackR64 (neg64 x) (um64 x * 4 - q - 1) r (ue64 x - 2) _ 1 5000 t (val64 x - val64 y) 1 w (by omega) (by omega) (by omega) ht64 (by omega) (p3 hr) (by omega) (hrd _)
      have fw : IntKind.u64.wrap ((um64 x : Int) * 4 - (q : Int)) = ((um64 x * 4 - q : Nat) : Int) := by rw [IntKind.wrap_u64]; omega
      have fw2 : IntKind.u64.wrap (((um64 x * 4 - q : Nat) : Int) - 1) = ((um64 x * 4 - q - 1 : Nat) : Int) := by rw [IntKind.wrap_u64]; omega
      have fz : (((um64 x * 4 - q - 1 : Nat) : Int) == 0) = false := beq_eq_false_iff_ne.mpr (by omega)
      generalize um64 x * 4 - q - 1 = M at *
      generalize um64 x * 4 - q = M1 at *
      generalize rd64 (neg64 x) (val64 x - val64 y) 1 = R at *
      generalize um64 x = ux at *
      generalize um64 y = uy at *
      generalize ue64 x = exx at *
      generalize ue64 y = eyy at *
      generalize sgn64 (neg64 x) 0 = sgx at *
      generalize sgn64 (neg64 y) 0 = sgy at *
      have G3 := Lib.hid HP
      have G1 := Lib.hid H1
      have G2 := Lib.hid H2
      clear H1 H2 HP hx hy p1 p2 p3 q1 q2 z1 z2 vp vpx vpy hs hrd ht64 hr hv hq l1 l2
      go_enter Try.func83, Try.ntmps83
      go_wp2_with fail
      refine (G1.out).mono ?_
      rintro e w' ⟨rfl, rfl⟩
      go_wp2_with fail
      refine (G2.out).mono ?_
      rintro e w' ⟨rfl, rfl⟩
      go_wp2_with fail
      refine (G3.out).mono ?_
      rintro e w' ⟨rfl, rfl⟩
      go_wp2_with fail
      go_ret
      exact ⟨rfl, rfl⟩
set_option maxRecDepth 100000 in
set_option maxHeartbeats 4000000 in
theorem fadd64_ret (x y : Nat) (w : World) (hx : x < 18446744073709551616) (hy : y < 18446744073709551616) :
    Calls Try.prog 83 #[.int .u64 (x : Int), .int .u64 (y : Int)] w (RetW (.int .u64 (add64 x y : Int)) w) := by
  have H1 := funpack64_any x w hx
  have H2 := funpack64_any y w hy
  unfold Tup564 at H1 H2
  rw [sb_sgn64 hx] at H1
  rw [sb_sgn64 hy] at H2
  rcases kinds64 x with nx | ⟨nx, ix, zx, mx, gx⟩ | ⟨nx, ix, zx, mx, gx, ex0⟩ | ⟨nx, ix, zx, gx1, gx2, mx1, mx2, ex1, ex2, t1, et1, vt1⟩
  · have eR : add64 x y = 9221120237041090560 := by simp [add64, nx]
    rw [eR]
    rw [nx] at H1
    have G1 := Lib.hid H1
    have G2 := Lib.hid H2
    clear H1 H2 hx hy
    go_enter Try.func83, Try.ntmps83
    go_wp2_with fail
    refine (G1.out).mono ?_
    rintro e w' ⟨rfl, rfl⟩
    go_wp2_with fail
    refine (G2.out).mono ?_
    rintro e w' ⟨rfl, rfl⟩
    go_wp2_with fail
    go_ret
    exact ⟨rfl, rfl⟩
  · rcases kinds64 y with ny | ⟨ny, iy, zy, my, gy⟩ | ⟨ny, iy, zy, my, gy, ey0⟩ | ⟨ny, iy, zy, gy1, gy2, my1, my2, ey1, ey2, t2, et2, vt2⟩
    · have eR : add64 x y = 9221120237041090560 := by simp [add64, ny]
      rw [eR]
      rw [nx, ix, mx] at H1
      rw [ny] at H2
      have G1 := Lib.hid H1
      have G2 := Lib.hid H2
      clear nx ix zx mx gx ny H1 H2 hx hy eR
      go_enter Try.func83, Try.ntmps83
      go_wp2_with fail
      refine (G1.out).mono ?_
      rintro e w' ⟨rfl, rfl⟩
      go_wp2_with fail
      refine (G2.out).mono ?_
      rintro e w' ⟨rfl, rfl⟩
      go_wp2_with fail
      go_ret
      exact ⟨rfl, rfl⟩
    · by_cases hs : neg64 x = neg64 y
      · have hxy : x = y := by rw [← sgn_mag64 hx, ← sgn_mag64 hy, hs, gx, gy]
        have eR : add64 x y = x := by simp [add64, ny, iy, hxy]
        rw [eR]
        rw [nx, ix, mx] at H1
        rw [ny, iy, my] at H2
        rw [hs] at H1
        have hd : (((sgn64 (neg64 y) 0 : Nat) : Int) != ((sgn64 (neg64 y) 0 : Nat) : Int)) = false := by simp
        generalize sgn64 (neg64 y) 0 = sgy at *
        have G1 := Lib.hid H1
        have G2 := Lib.hid H2
        clear nx ix zx mx gx ny iy zy my gy H1 H2 hx hy eR hxy hs
        go_enter Try.func83, Try.ntmps83
        go_wp2_with fail
        refine (G1.out).mono ?_
        rintro e w' ⟨rfl, rfl⟩
        go_wp2_with fail
        refine (G2.out).mono ?_
        rintro e w' ⟨rfl, rfl⟩
        go_wp2_with fail
        go_ret
        exact ⟨rfl, rfl⟩
      · have hxy : x ≠ y := fun h => hs (by rw [h])
        have eR : add64 x y = 9221120237041090560 := by simp [add64, nx, ix, ny, iy, hxy]
        rw [eR]
        rw [nx, ix, mx] at H1
        rw [ny, iy, my] at H2
        have hd : (((sgn64 (neg64 x) 0 : Nat) : Int) != ((sgn64 (neg64 y) 0 : Nat) : Int)) = true := by
          revert hs
          cases neg64 x <;> cases neg64 y <;> decide
        generalize sgn64 (neg64 x) 0 = sgx at *
        generalize sgn64 (neg64 y) 0 = sgy at *
        have G1 := Lib.hid H1
        have G2 := Lib.hid H2
        clear nx ix zx mx gx ny iy zy my gy H1 H2 hx hy eR hxy hs
        go_enter Try.func83, Try.ntmps83
        go_wp2_with fail
        refine (G1.out).mono ?_
        rintro e w' ⟨rfl, rfl⟩
        go_wp2_with fail
        refine (G2.out).mono ?_
        rintro e w' ⟨rfl, rfl⟩
        go_wp2_with fail
        go_ret
        exact ⟨rfl, rfl⟩
    · have eR : add64 x y = x := by simp [add64, nx, ix, ny, iy]
      rw [eR]
      rw [nx, ix, mx] at H1
      rw [ny, iy, my] at H2
      generalize sgn64 (neg64 x) 0 = sgx at *
      generalize sgn64 (neg64 y) 0 = sgy at *
      have G1 := Lib.hid H1
      have G2 := Lib.hid H2
      clear nx ix zx mx gx ny iy zy my gy ey0 H1 H2 hx hy eR
      go_enter Try.func83, Try.ntmps83
      go_wp2_with fail
      refine (G1.out).mono ?_
      rintro e w' ⟨rfl, rfl⟩
      go_wp2_with fail
      refine (G2.out).mono ?_
      rintro e w' ⟨rfl, rfl⟩
      go_wp2_with fail
      go_ret
      exact ⟨rfl, rfl⟩
    · have eR : add64 x y = x := by simp [add64, nx, ix, ny, iy]
      rw [eR]
      rw [nx, ix, mx] at H1
      rw [ny, iy] at H2
      have e2 : ((um64 y : Int) == 0) = false := beq_eq_false_iff_ne.mpr (by omega)
      generalize sgn64 (neg64 x) 0 = sgx at *
      generalize sgn64 (neg64 y) 0 = sgy at *
      have G1 := Lib.hid H1
      have G2 := Lib.hid H2
      clear nx ix zx mx gx ny iy zy gy1 gy2 my1 my2 ey1 ey2 et2 vt2 H1 H2 hx hy eR
      go_enter Try.func83, Try.ntmps83
      go_wp2_with fail
      refine (G1.out).mono ?_
      rintro e w' ⟨rfl, rfl⟩
      go_wp2_with fail
      refine (G2.out).mono ?_
      rintro e w' ⟨rfl, rfl⟩
      go_wp2_with fail
      go_ret
      exact ⟨rfl, rfl⟩
  · rcases kinds64 y with ny | ⟨ny, iy, zy, my, gy⟩ | ⟨ny, iy, zy, my, gy, ey0⟩ | ⟨ny, iy, zy, gy1, gy2, my1, my2, ey1, ey2, t2, et2, vt2⟩
    · have eR : add64 x y = 9221120237041090560 := by simp [add64, ny]
      rw [eR]
      rw [nx, ix, mx] at H1
      rw [ny] at H2
      have G1 := Lib.hid H1
      have G2 := Lib.hid H2
      clear nx ix zx mx gx ex0 ny H1 H2 hx hy eR
      go_enter Try.func83, Try.ntmps83
      go_wp2_with fail
      refine (G1.out).mono ?_
      rintro e w' ⟨rfl, rfl⟩
      go_wp2_with fail
      refine (G2.out).mono ?_
      rintro e w' ⟨rfl, rfl⟩
      go_wp2_with fail
      go_ret
      exact ⟨rfl, rfl⟩
    · have eR : add64 x y = y := by simp [add64, nx, ix, ny, iy]
      rw [eR]
      rw [nx, ix, mx] at H1
      rw [ny, iy, my] at H2
      generalize sgn64 (neg64 x) 0 = sgx at *
      generalize sgn64 (neg64 y) 0 = sgy at *
      have G1 := Lib.hid H1
      have G2 := Lib.hid H2
      clear nx ix zx mx gx ex0 ny iy zy my gy H1 H2 hx hy eR
      go_enter Try.func83, Try.ntmps83
      go_wp2_with fail
      refine (G1.out).mono ?_
      rintro e w' ⟨rfl, rfl⟩
      go_wp2_with fail
      refine (G2.out).mono ?_
      rintro e w' ⟨rfl, rfl⟩
      go_wp2_with fail
      go_ret
      exact ⟨rfl, rfl⟩
    · have eR : add64 x y = addf64 x y := add_fin64 nx ix ny iy
      rw [eR]
      rw [addf_zz64 gx gy]
      rw [nx, ix, mx] at H1
      rw [ny, iy, my] at H2
      have sx0 := sgn_ne064 (neg64 x)
      have sy0 := sgn_ne064 (neg64 y)
      have hyv := sgn_mag64 hy
      rw [gy] at hyv
      have hxv := sgn_mag64 hx
      rw [gx] at hxv
      have exs : bits .xor .u64 (y : Int) ((sgn64 (neg64 y) 0 : Nat) : Int) = 0 := by
        rw [← hyv]
        rw [hyv, show bits .xor .u64 (y : Int) ((sgn64 (neg64 y) 0 : Nat) : Int) = bits .xor .u64 ((sgn64 (neg64 y) 0 : Nat) : Int) ((sgn64 (neg64 y) 0 : Nat) : Int) by rw [hyv], xor_sgn64]
        simp [sgn64]
      cases hnx : neg64 x
      · rw [hnx] at H1 sx0 hxv
        generalize sgn64 false 0 = sgx at H1 sx0 hxv
        generalize sgn64 (neg64 y) 0 = sgy at *
        simp only [Bool.false_and, Bool.false_eq_true, if_false]
        have G1 := Lib.hid H1
        have G2 := Lib.hid H2
        clear nx ix zx mx gx ex0 ny iy zy my gy ey0 H1 H2 hx hy eR hyv hxv
        go_enter Try.func83, Try.ntmps83
        go_wp2_with fail
        refine (G1.out).mono ?_
        rintro e w' ⟨rfl, rfl⟩
        go_wp2_with fail
        refine (G2.out).mono ?_
        rintro e w' ⟨rfl, rfl⟩
        go_wp2_with fail
        go_ret
        exact ⟨rfl, rfl⟩
      · rw [hnx] at H1 sx0 hxv
        cases hny : neg64 y
        · rw [hny] at H2 sy0 hyv exs
          generalize sgn64 true 0 = sgx at H1 sx0 hxv
          generalize sgn64 false 0 = sgy at *
          simp only [Bool.and_false, Bool.false_eq_true, if_false]
          have G1 := Lib.hid H1
          have G2 := Lib.hid H2
          clear nx ix zx mx gx ex0 ny iy zy my gy ey0 H1 H2 hx hy eR hyv hxv
          go_enter Try.func83, Try.ntmps83
          go_wp2_with fail
          refine (G1.out).mono ?_
          rintro e w' ⟨rfl, rfl⟩
          go_wp2_with fail
          refine (G2.out).mono ?_
          rintro e w' ⟨rfl, rfl⟩
          go_wp2_with fail
          go_ret
          exact ⟨rfl, rfl⟩
        · rw [hny] at H2 sy0 hyv
          have hxe : x = 9223372036854775808 := hxv.symm
          have eX : (if (true && true) = true then (9223372036854775808 : Nat) else 0) = x := by rw [hxe]; rfl
          rw [eX]
          generalize sgn64 true 0 = sgx at *
          clear exs
          have G1 := Lib.hid H1
          have G2 := Lib.hid H2
          clear nx ix zx mx gx ex0 ny iy zy my gy ey0 H1 H2 hx hy eR hyv hxv hxe eX
          go_enter Try.func83, Try.ntmps83
          go_wp2_with fail
          refine (G1.out).mono ?_
          rintro e w' ⟨rfl, rfl⟩
          go_wp2_with fail
          refine (G2.out).mono ?_
          rintro e w' ⟨rfl, rfl⟩
          go_wp2_with fail
          go_ret
          exact ⟨rfl, rfl⟩
    · have eR : add64 x y = addf64 x y := add_fin64 nx ix ny iy
      rw [eR]
      rw [addf_zl64 hy gx gy1 gy2]
      rw [nx, ix, mx] at H1
      rw [ny, iy] at H2
      have e2 : ((um64 y : Int) == 0) = false := beq_eq_false_iff_ne.mpr (by omega)
      generalize sgn64 (neg64 x) 0 = sgx at *
      generalize sgn64 (neg64 y) 0 = sgy at *
      have G1 := Lib.hid H1
      have G2 := Lib.hid H2
      clear nx ix zx mx gx ex0 ny iy zy gy1 gy2 my1 my2 ey1 ey2 et2 vt2 H1 H2 hx hy eR
      go_enter Try.func83, Try.ntmps83
      go_wp2_with fail
      refine (G1.out).mono ?_
      rintro e w' ⟨rfl, rfl⟩
      go_wp2_with fail
      refine (G2.out).mono ?_
      rintro e w' ⟨rfl, rfl⟩
      go_wp2_with fail
      go_ret
      exact ⟨rfl, rfl⟩
  · rcases kinds64 y with ny | ⟨ny, iy, zy, my, gy⟩ | ⟨ny, iy, zy, my, gy, ey0⟩ | ⟨ny, iy, zy, gy1, gy2, my1, my2, ey1, ey2, t2, et2, vt2⟩
    · have eR : add64 x y = 9221120237041090560 := by simp [add64, ny]
      rw [eR]
      rw [nx, ix] at H1
      rw [ny] at H2
      have G1 := Lib.hid H1
      have G2 := Lib.hid H2
      clear nx ix zx gx1 gx2 mx1 mx2 ex1 ex2 et1 vt1 ny H1 H2 hx hy eR
      go_enter Try.func83, Try.ntmps83
      go_wp2_with fail
      refine (G1.out).mono ?_
      rintro e w' ⟨rfl, rfl⟩
      go_wp2_with fail
      refine (G2.out).mono ?_
      rintro e w' ⟨rfl, rfl⟩
      go_wp2_with fail
      go_ret
      exact ⟨rfl, rfl⟩
    · have eR : add64 x y = y := by simp [add64, nx, ix, ny, iy]
      rw [eR]
      rw [nx, ix] at H1
      rw [ny, iy, my] at H2
      have e1 : ((um64 x : Int) == 0) = false := beq_eq_false_iff_ne.mpr (by omega)
      generalize sgn64 (neg64 x) 0 = sgx at *
      generalize sgn64 (neg64 y) 0 = sgy at *
      have G1 := Lib.hid H1
      have G2 := Lib.hid H2
      clear nx ix zx gx1 gx2 mx1 mx2 ex1 ex2 et1 vt1 ny iy zy my gy H1 H2 hx hy eR
      go_enter Try.func83, Try.ntmps83
      go_wp2_with fail
      refine (G1.out).mono ?_
      rintro e w' ⟨rfl, rfl⟩
      go_wp2_with fail
      refine (G2.out).mono ?_
      rintro e w' ⟨rfl, rfl⟩
      go_wp2_with fail
      go_ret
      exact ⟨rfl, rfl⟩
    · have eR : add64 x y = addf64 x y := add_fin64 nx ix ny iy
      rw [eR]
      rw [addf_zr64 hx gy gx1 gx2]
      rw [nx, ix] at H1
      rw [ny, iy, my] at H2
      have e1 : ((um64 x : Int) == 0) = false := beq_eq_false_iff_ne.mpr (by omega)
      generalize sgn64 (neg64 x) 0 = sgx at *
      generalize sgn64 (neg64 y) 0 = sgy at *
      have G1 := Lib.hid H1
      have G2 := Lib.hid H2
      clear nx ix zx gx1 gx2 mx1 mx2 ex1 ex2 et1 vt1 ny iy zy my gy ey0 H1 H2 hx hy eR
      go_enter Try.func83, Try.ntmps83
      go_wp2_with fail
      refine (G1.out).mono ?_
      rintro e w' ⟨rfl, rfl⟩
      go_wp2_with fail
      refine (G2.out).mono ?_
      rintro e w' ⟨rfl, rfl⟩
      go_wp2_with fail
      go_ret
      exact ⟨rfl, rfl⟩
    · have eR : add64 x y = addf64 x y := add_fin64 nx ix ny iy
      rw [eR]
      rw [nx, ix] at H1
      rw [ny, iy] at H2
      rcases Int.lt_trichotomy (ue64 x) (ue64 y) with ho | ho | ho
      · exact fadd64_lt x y w hx hy gx1 gx2 gy1 gy2 mx1 mx2 ex1 ex2 t1 et1 vt1 my1 my2 ey1 ey2 t2 et2 vt2 H1 H2 ho
      · rcases Nat.lt_or_ge (um64 x) (um64 y) with hm | hm
        · exact fadd64_el x y w hx hy gx1 gx2 gy1 gy2 mx1 mx2 ex1 ex2 t1 et1 vt1 my1 my2 ey1 ey2 t2 et2 vt2 H1 H2 ho hm
        · exact fadd64_eg x y w hx hy gx1 gx2 gy1 gy2 mx1 mx2 ex1 ex2 t1 et1 vt1 my1 my2 ey1 ey2 t2 et2 vt2 H1 H2 ho hm
      · exact fadd64_gt x y w hx hy gx1 gx2 gy1 gy2 mx1 mx2 ex1 ex2 t1 et1 vt1 my1 my2 ey1 ey2 t2 et2 vt2 H1 H2 ho
end Go.Proofs.Ytpjanmahbimhkaa.SF
