/-
  Plain mathematics: the nearest rung as a function; what is exact; the order; signs.
-/
import Derived.Test.YtpjanmahbimhkaaArithP
import Derived.Test.YtpjanmahbimhkaaPackR
import Derived.Test.YtpjanmahbimhkaaFAdd
namespace Go.Proofs.Ytpjanmahbimhkaa.SF
open Go.RowKit
set_option linter.unusedVariables false

theorem rep_val (F : Nat) : ∀ k n : Nat, n ≤ 2 ^ (F + 1) → ∃ b, val F b = n * 2 ^ k
  | 0, n, h => ⟨n, by have := val_of F 0 n (.inl rfl) h; simpa using this⟩
  | k + 1, n, h => by
    rcases Nat.lt_or_ge n (2 ^ F) with h1 | h1
    · obtain ⟨b, hb⟩ := rep_val F k (2 * n) (by rw [pow_succ2]; omega)
      exact ⟨b, by rw [hb, pow_succ2]; ac_rfl⟩
    · exact ⟨(k + 1) * 2 ^ F + n, val_of F (k + 1) n (.inr h1) h⟩

theorem rn_of_val {F A B b : Nat} (hB : 0 < B) (h : A = val F b * B) : rn F A B = b := by
  rw [h]; exact (IsRnd.exact F B b hB).rn hB
theorem rn_val {F b : Nat} : rn F (val F b) 1 = b := rn_of_val (by omega) (by omega)
theorem rn_mono {F : Nat} (hF : 1 ≤ F) {A B A' B' : Nat} (hB : 0 < B) (hB' : 0 < B') (h : A * B' ≤ A' * B) : rn F A B ≤ rn F A' B' :=
  (rn_spec hF A B hB).mono (rn_spec hF A' B' hB') hB hB' h
theorem rn_congr {F : Nat} (hF : 1 ≤ F) {A B A' B' : Nat} (hB : 0 < B) (hB' : 0 < B') (h : A * B' = A' * B) : rn F A B = rn F A' B' :=
  (rn_spec hF A B hB).unique (rn_spec hF A' B' hB') hB hB' h
theorem rn_ge {F : Nat} (hF : 1 ≤ F) {A B b : Nat} (hB : 0 < B) (h : val F b * B ≤ A) : b ≤ rn F A B := by
  have := rn_mono hF (A := val F b * B) (B := B) (A' := A) (B' := B) hB hB (Nat.mul_le_mul_right _ h)
  rwa [rn_of_val hB rfl] at this
theorem rn_le {F : Nat} (hF : 1 ≤ F) {A B b : Nat} (hB : 0 < B) (h : A ≤ val F b * B) : rn F A B ≤ b := by
  have := rn_mono hF (A := A) (B := B) (A' := val F b * B) (B' := B) hB hB (Nat.mul_le_mul_right _ h)
  rwa [rn_of_val hB rfl] at this
theorem rn_zero {F B : Nat} (hB : 0 < B) : rn F 0 B = 0 := (rnd_zero (F := F) (A := 0) (B := B) (by omega)).rn hB
theorem val_one' {F : Nat} (hF : 1 ≤ F) : val F 1 = 1 := by
  have : 1 < 2 ^ F := Nat.one_lt_two_pow (by omega)
  simp [val, this]
theorem rn_pos {F : Nat} (hF : 1 ≤ F) {A B : Nat} (hB : 0 < B) (h : B ≤ A) : 1 ≤ rn F A B :=
  rn_ge hF hB (by rw [val_one' hF]; omega)
/-- the size of the rung T * 2^F -/
theorem val_top {F T : Nat} : val F ((T + 1) * 2 ^ F) = 2 ^ (F + T) := by
  have := val_of F T (2 ^ F) (.inr (Nat.le_refl _)) (by rw [pow_succ2]; omega)
  rw [Nat.add_mul, Nat.one_mul, this, Nat.pow_add]
theorem val_topL {F T L : Nat} (h : F + T = L) : val F ((T + 1) * 2 ^ F) = 2 ^ L := by rw [val_top, h]
theorem pow_swap {v a b c d : Nat} (h : a + b = c + d) : v * 2 ^ a * 2 ^ b = v * 2 ^ c * 2 ^ d := by rw [Nat.mul_assoc, Nat.mul_assoc, ← Nat.pow_add, ← Nat.pow_add, h]
/-- a sign and a size -/
def sk (neg : Bool) (n : Nat) : Int := if neg then -(n : Int) else (n : Int)
theorem sk_neg (a : Bool) (n : Nat) : sk (!a) n = -sk a n := by cases a <;> simp [sk]
theorem sk_le {a : Bool} {n m : Nat} (h : n ≤ m) : -(m : Int) ≤ sk a n ∧ sk a n ≤ m := by cases a <;> simp [sk] <;> omega

theorem inf_val64 : val 52 9218868437227405312 = 2 ^ (52 + 2046) := by
  have := val_top (F := 52) (T := 2046)
  rw [← this]
theorem neg_sgn64 (a : Bool) {b : Nat} (hb : b < 9223372036854775808) : neg64 (sgn64 a b) = a := by
  cases a <;> simp [neg64, sgn64] <;> omega
theorem mag_sgn64 (a : Bool) {b : Nat} (hb : b < 9223372036854775808) : mag64 (sgn64 a b) = b := by
  cases a <;> simp [mag64, sgn64] <;> omega
theorem bits_eq64 {x y : Nat} (hx : x < 18446744073709551616) (hy : y < 18446744073709551616) (h1 : neg64 x = neg64 y) (h2 : mag64 x = mag64 y) : x = y := by
  rw [← sgn_mag64 hx, ← sgn_mag64 hy, h1, h2]
/-- the opposite -/
def flip64 (x : Nat) : Nat := sgn64 (!neg64 x) (mag64 x)
theorem flip_lt64 (x : Nat) : flip64 x < 18446744073709551616 := sgn_lt64 _ (mag_lt64 x)
theorem neg_flip64 (x : Nat) : neg64 (flip64 x) = !neg64 x := neg_sgn64 _ (mag_lt64 x)
theorem mag_flip64 (x : Nat) : mag64 (flip64 x) = mag64 x := mag_sgn64 _ (mag_lt64 x)
theorem flip_sgn64 (a : Bool) {b : Nat} (hb : b < 9223372036854775808) : flip64 (sgn64 a b) = sgn64 (!a) b := by
  unfold flip64; rw [neg_sgn64 a hb, mag_sgn64 a hb]
theorem xor_flip164 {x : Nat} (hx : x < 18446744073709551616) : bits .xor .u64 (x : Int) 9223372036854775808 = ((flip64 x : Nat) : Int) := by
  have h := xor_flip64 (y := 9223372036854775808) hx (by omega)
  have e1 : sb64 9223372036854775808 = 9223372036854775808 := by decide
  have e2 : neg64 9223372036854775808 = true := by decide
  rw [e1, e2] at h
  rw [show (neg64 x != true) = !neg64 x by cases neg64 x <;> rfl] at h
  exact h
theorem isNaN_flip64 (x : Nat) : isNaN64 (flip64 x) = isNaN64 x := by unfold isNaN64; rw [mag_flip64]
theorem isInf_flip64 (x : Nat) : isInf64 (flip64 x) = isInf64 x := by unfold isInf64; rw [mag_flip64]
theorem isZero_flip64 (x : Nat) : isZero64 (flip64 x) = isZero64 x := by unfold isZero64; rw [mag_flip64]
theorem fin_flip64 (x : Nat) : fin64 (flip64 x) = fin64 x := by unfold fin64; rw [mag_flip64]
theorem val_flip64 (x : Nat) : val64 (flip64 x) = val64 x := by unfold val64; rw [mag_flip64]
theorem sv_sk64 (x : Nat) : sv64 x = sk (neg64 x) (val64 x) := rfl
theorem sv_flip64 (x : Nat) : sv64 (flip64 x) = -sv64 x := by rw [sv_sk64, sv_sk64, neg_flip64, val_flip64, sk_neg]
/-- kinds of bits by their rung -/
theorem nan_iff64 {x : Nat} : isNaN64 x = true ↔ 9218868437227405312 < mag64 x := by unfold isNaN64; exact decide_eq_true_iff
theorem nan_not64 {x : Nat} : isNaN64 x = false ↔ mag64 x ≤ 9218868437227405312 := by unfold isNaN64; rw [decide_eq_false_iff_not]; omega
theorem inf_iff64 {x : Nat} : isInf64 x = true ↔ mag64 x = 9218868437227405312 := by unfold isInf64; exact decide_eq_true_iff
theorem inf_not64 {x : Nat} : isInf64 x = false ↔ mag64 x ≠ 9218868437227405312 := by unfold isInf64; rw [decide_eq_false_iff_not]
theorem zero_iff64 {x : Nat} : isZero64 x = true ↔ mag64 x = 0 := by unfold isZero64; exact decide_eq_true_iff
theorem zero_not64 {x : Nat} : isZero64 x = false ↔ mag64 x ≠ 0 := by unfold isZero64; rw [decide_eq_false_iff_not]
theorem fin_iff64 {x : Nat} : fin64 x = true ↔ mag64 x < 9218868437227405312 := by unfold fin64; exact decide_eq_true_iff
theorem fin_not64 {x : Nat} : fin64 x = false ↔ 9218868437227405312 ≤ mag64 x := by unfold fin64; rw [decide_eq_false_iff_not]; omega
theorem fin_nan64 {x : Nat} (h : fin64 x = true) : isNaN64 x = false ∧ isInf64 x = false := by
  have := fin_iff64.mp h
  exact ⟨nan_not64.mpr (by omega), inf_not64.mpr (by omega)⟩
theorem fin_of64 {x : Nat} (h : isNaN64 x = false) (h2 : isInf64 x = false) : fin64 x = true := by
  have h3 := nan_not64.mp h
  have h4 := inf_not64.mp h2
  exact fin_iff64.mpr (by omega)
/-- a float's place in the order -/
def key64 (x : Nat) : Int := sk (neg64 x) (mag64 x)
theorem key_sgn64 (a : Bool) {b : Nat} (hb : b < 9223372036854775808) : key64 (sgn64 a b) = sk a b := by unfold key64; rw [neg_sgn64 a hb, mag_sgn64 a hb]
theorem key_flip64 (x : Nat) : key64 (flip64 x) = -key64 x := by unfold key64; rw [neg_flip64, mag_flip64, sk_neg]
theorem key_bd64 {x : Nat} (h : isNaN64 x = false) : -9218868437227405312 ≤ key64 x ∧ key64 x ≤ 9218868437227405312 := sk_le (nan_not64.mp h)
theorem key_sv_le64 {x y : Nat} : key64 x ≤ key64 y ↔ sv64 x ≤ sv64 y := by
  rw [sv_sk64, sv_sk64]
  unfold key64 sk
  have h1 := @val_le_iff 52 (mag64 x) (mag64 y)
  have h2 := @val_le_iff 52 (mag64 y) (mag64 x)
  have h3 := @val_eq_zero 52 (mag64 x)
  have h4 := @val_eq_zero 52 (mag64 y)
  unfold val64
  cases neg64 x <;> cases neg64 y <;> simp only [Bool.false_eq_true, if_false, if_true] <;> omega
theorem key_sv_eq64 {x y : Nat} : key64 x = key64 y ↔ sv64 x = sv64 y := by
  have h1 := @key_sv_le64 x y
  have h2 := @key_sv_le64 y x
  omega
theorem key_sv_lt64 {x y : Nat} : key64 x < key64 y ↔ sv64 x < sv64 y := by
  have h2 := @key_sv_le64 y x
  omega
theorem sv_zero_iff64 {x : Nat} : sv64 x = 0 ↔ mag64 x = 0 := by
  have h3 := @val_eq_zero 52 (mag64 x)
  rw [sv_sk64]
  unfold sk val64
  cases neg64 x <;> simp only [Bool.false_eq_true, if_false, if_true] <;> omega
theorem rmin_lt64 (A B : Nat) : min (rn 52 A B) 9218868437227405312 < 9223372036854775808 := by have := Nat.min_le_right (rn 52 A B) 9218868437227405312; omega
theorem neg_rd64 (a : Bool) (A B : Nat) : neg64 (rd64 a A B) = a := neg_sgn64 a (rmin_lt64 A B)
theorem mag_rd64 (a : Bool) (A B : Nat) : mag64 (rd64 a A B) = min (rn 52 A B) 9218868437227405312 := mag_sgn64 a (rmin_lt64 A B)
theorem key_rd64 (a : Bool) (A B : Nat) : key64 (rd64 a A B) = sk a (min (rn 52 A B) 9218868437227405312) := key_sgn64 a (rmin_lt64 A B)
theorem nan_rd64 (a : Bool) (A B : Nat) : isNaN64 (rd64 a A B) = false := nan_not64.mpr (by rw [mag_rd64]; exact Nat.min_le_right _ _)
theorem flip_rd64 (a : Bool) (A B : Nat) : flip64 (rd64 a A B) = rd64 (!a) A B := flip_sgn64 a (rmin_lt64 A B)
theorem rd_congr64 (a : Bool) {A B A' B' : Nat} (hB : 0 < B) (hB' : 0 < B') (h : A * B' = A' * B) : rd64 a A B = rd64 a A' B' := by
  unfold rd64; rw [rn_congr (by omega) hB hB' h]
theorem rd_val64 (a : Bool) {A B b : Nat} (hB : 0 < B) (h : A = val 52 b * B) (hb : b ≤ 9218868437227405312) : rd64 a A B = sgn64 a b := by
  unfold rd64; rw [rn_of_val hB h, Nat.min_eq_left hb]
theorem rd_mulval64 {x : Nat} (a : Bool) {B : Nat} (hB : 0 < B) (hf : mag64 x ≤ 9218868437227405312) : rd64 a (val64 x * B) B = sgn64 a (mag64 x) := rd_val64 a hB rfl hf
/-- the nearest float's place, of a number with a sign -/
noncomputable def rk64 (s : Int) : Int := sk (decide (s < 0)) (min (rn 52 s.natAbs 1) 9218868437227405312)
theorem rk_neg64 (s : Int) : rk64 (-s) = -rk64 s := by
  unfold rk64
  rw [Int.natAbs_neg]
  rcases Int.lt_trichotomy s 0 with h | h | h
  · rw [decide_eq_true h, decide_eq_false (show ¬ -s < 0 by omega)]; simp [sk]
  · subst h; simp [sk, rn_zero]
  · rw [decide_eq_false (show ¬ s < 0 by omega), decide_eq_true (show -s < 0 by omega)]; simp [sk]
theorem rk_zero64 : rk64 0 = 0 := by unfold rk64; simp [sk, rn_zero]
theorem rk_nonneg64 {s : Int} (h : 0 ≤ s) : 0 ≤ rk64 s := by unfold rk64; rw [decide_eq_false (by omega)]; simp only [sk, Bool.false_eq_true, if_false]; omega
theorem rk_pmono64 {s t : Int} (h0 : 0 ≤ s) (h : s ≤ t) : rk64 s ≤ rk64 t := by
  unfold rk64
  have := rn_mono (F := 52) (A := s.natAbs) (B := 1) (A' := t.natAbs) (B' := 1) (by omega) (by omega) (by omega) (by omega)
  rw [decide_eq_false (by omega), decide_eq_false (by omega)]
  simp only [sk, Bool.false_eq_true, if_false]
  omega
theorem rk_mono64 {s t : Int} (h : s ≤ t) : rk64 s ≤ rk64 t := by
  rcases Int.lt_or_le s 0 with h1 | h1
  · rcases Int.lt_or_le t 0 with h2 | h2
    · have := rk_pmono64 (s := -t) (t := -s) (by omega) (by omega)
      rw [rk_neg64, rk_neg64] at this
      omega
    · have h3 := rk_nonneg64 h2
      have h4 := rk_nonneg64 (s := -s) (by omega)
      rw [rk_neg64] at h4
      omega
  · exact rk_pmono64 h1 h
theorem rk_sv64 {x : Nat} (h : mag64 x ≤ 9218868437227405312) : rk64 (sv64 x) = key64 x := by
  have e : rn 52 (val64 x) 1 = mag64 x := rn_val
  have hz := @sv_zero_iff64 x
  unfold rk64 key64
  have hn : (sv64 x).natAbs = val64 x := by rw [sv_sk64]; unfold sk; cases neg64 x <;> simp
  rw [hn, e, Nat.min_eq_left h]
  rcases Nat.eq_zero_or_pos (mag64 x) with h0 | h0
  · rw [h0]; simp [sk]
  · have hp := val_pos64 h0
    congr 1
    rw [sv_sk64]
    unfold sk
    cases neg64 x
    · simp only [Bool.false_eq_true, if_false]; exact decide_eq_false (by omega)
    · simp only [if_true]; exact decide_eq_true (by omega)
theorem key_addf64 (x y : Nat) : key64 (addf64 x y) = rk64 (sv64 x + sv64 y) := by
  unfold addf64
  by_cases h : sv64 x + sv64 y = 0
  · rw [if_pos h, h, rk_zero64]
    split
    · decide
    · decide
  · rw [if_neg h, key_rd64]; rfl
theorem addf_lt64 (x y : Nat) : addf64 x y < 18446744073709551616 := by
  unfold addf64
  split
  · split <;> omega
  · exact rd_lt64 _ _ _
theorem nan_addf64 (x y : Nat) : isNaN64 (addf64 x y) = false := by
  unfold addf64
  split
  · split <;> decide
  · exact nan_rd64 _ _ _
/-- the sign of a sum that is not 0 -/
theorem neg_addf64 {x y : Nat} (h : sv64 x + sv64 y ≠ 0) : neg64 (addf64 x y) = decide (sv64 x + sv64 y < 0) := by
  unfold addf64; rw [if_neg h, neg_rd64]
theorem mag_addf64 (x y : Nat) : mag64 (addf64 x y) = min (rn 52 (sv64 x + sv64 y).natAbs 1) 9218868437227405312 := by
  unfold addf64
  by_cases h : sv64 x + sv64 y = 0
  · rw [if_pos h, h]
    simp only [Int.natAbs_zero, rn_zero (by omega : 0 < 1), Nat.zero_min]
    split <;> decide
  · rw [if_neg h, mag_rd64]
theorem add_lt64 {x y : Nat} (hx : x < 18446744073709551616) (hy : y < 18446744073709551616) : add64 x y < 18446744073709551616 := by
  unfold add64
  split
  · omega
  · split
    · exact hx
    · split
      · exact hy
      · exact addf_lt64 x y
theorem mul_lt64 (x y : Nat) : mul64 x y < 18446744073709551616 := by
  unfold mul64
  split
  · omega
  · split
    · exact sgn_lt64 _ (by omega)
    · exact rd_lt64 _ _ _
theorem div_lt64 (x y : Nat) : div64 x y < 18446744073709551616 := by
  unfold div64
  split
  · omega
  · split
    · exact sgn_lt64 _ (by omega)
    · split
      · exact sgn_lt64 _ (by omega)
      · exact rd_lt64 _ _ _
/-- the same bits, or both NaNs -/
def alikeB64 (a b : Nat) : Bool := decide (a = b) || (isNaN64 a && isNaN64 b)
theorem alike_self64 (a : Nat) : alikeB64 a a = true := by simp [alikeB64]
theorem inf_val32 : val 23 2139095040 = 2 ^ (23 + 254) := by
  have := val_top (F := 23) (T := 254)
  rw [← this]
theorem neg_sgn32 (a : Bool) {b : Nat} (hb : b < 2147483648) : neg32 (sgn32 a b) = a := by
  cases a <;> simp [neg32, sgn32] <;> omega
theorem mag_sgn32 (a : Bool) {b : Nat} (hb : b < 2147483648) : mag32 (sgn32 a b) = b := by
  cases a <;> simp [mag32, sgn32] <;> omega
theorem bits_eq32 {x y : Nat} (hx : x < 4294967296) (hy : y < 4294967296) (h1 : neg32 x = neg32 y) (h2 : mag32 x = mag32 y) : x = y := by
  rw [← sgn_mag32 hx, ← sgn_mag32 hy, h1, h2]
/-- the opposite -/
def flip32 (x : Nat) : Nat := sgn32 (!neg32 x) (mag32 x)
theorem flip_lt32 (x : Nat) : flip32 x < 4294967296 := sgn_lt32 _ (mag_lt32 x)
theorem neg_flip32 (x : Nat) : neg32 (flip32 x) = !neg32 x := neg_sgn32 _ (mag_lt32 x)
theorem mag_flip32 (x : Nat) : mag32 (flip32 x) = mag32 x := mag_sgn32 _ (mag_lt32 x)
theorem flip_sgn32 (a : Bool) {b : Nat} (hb : b < 2147483648) : flip32 (sgn32 a b) = sgn32 (!a) b := by
  unfold flip32; rw [neg_sgn32 a hb, mag_sgn32 a hb]
theorem xor_flip132 {x : Nat} (hx : x < 4294967296) : bits .xor .u32 (x : Int) 2147483648 = ((flip32 x : Nat) : Int) := by
  have h := xor_flip32 (y := 2147483648) hx (by omega)
  have e1 : sb32 2147483648 = 2147483648 := by decide
  have e2 : neg32 2147483648 = true := by decide
  rw [e1, e2] at h
  rw [show (neg32 x != true) = !neg32 x by cases neg32 x <;> rfl] at h
  exact h
theorem isNaN_flip32 (x : Nat) : isNaN32 (flip32 x) = isNaN32 x := by unfold isNaN32; rw [mag_flip32]
theorem isInf_flip32 (x : Nat) : isInf32 (flip32 x) = isInf32 x := by unfold isInf32; rw [mag_flip32]
theorem isZero_flip32 (x : Nat) : isZero32 (flip32 x) = isZero32 x := by unfold isZero32; rw [mag_flip32]
theorem fin_flip32 (x : Nat) : fin32 (flip32 x) = fin32 x := by unfold fin32; rw [mag_flip32]
theorem val_flip32 (x : Nat) : val32 (flip32 x) = val32 x := by unfold val32; rw [mag_flip32]
theorem sv_sk32 (x : Nat) : sv32 x = sk (neg32 x) (val32 x) := rfl
theorem sv_flip32 (x : Nat) : sv32 (flip32 x) = -sv32 x := by rw [sv_sk32, sv_sk32, neg_flip32, val_flip32, sk_neg]
/-- kinds of bits by their rung -/
theorem nan_iff32 {x : Nat} : isNaN32 x = true ↔ 2139095040 < mag32 x := by unfold isNaN32; exact decide_eq_true_iff
theorem nan_not32 {x : Nat} : isNaN32 x = false ↔ mag32 x ≤ 2139095040 := by unfold isNaN32; rw [decide_eq_false_iff_not]; omega
theorem inf_iff32 {x : Nat} : isInf32 x = true ↔ mag32 x = 2139095040 := by unfold isInf32; exact decide_eq_true_iff
theorem inf_not32 {x : Nat} : isInf32 x = false ↔ mag32 x ≠ 2139095040 := by unfold isInf32; rw [decide_eq_false_iff_not]
theorem zero_iff32 {x : Nat} : isZero32 x = true ↔ mag32 x = 0 := by unfold isZero32; exact decide_eq_true_iff
theorem zero_not32 {x : Nat} : isZero32 x = false ↔ mag32 x ≠ 0 := by unfold isZero32; rw [decide_eq_false_iff_not]
theorem fin_iff32 {x : Nat} : fin32 x = true ↔ mag32 x < 2139095040 := by unfold fin32; exact decide_eq_true_iff
theorem fin_not32 {x : Nat} : fin32 x = false ↔ 2139095040 ≤ mag32 x := by unfold fin32; rw [decide_eq_false_iff_not]; omega
theorem fin_nan32 {x : Nat} (h : fin32 x = true) : isNaN32 x = false ∧ isInf32 x = false := by
  have := fin_iff32.mp h
  exact ⟨nan_not32.mpr (by omega), inf_not32.mpr (by omega)⟩
theorem fin_of32 {x : Nat} (h : isNaN32 x = false) (h2 : isInf32 x = false) : fin32 x = true := by
  have h3 := nan_not32.mp h
  have h4 := inf_not32.mp h2
  exact fin_iff32.mpr (by omega)
/-- a float's place in the order -/
def key32 (x : Nat) : Int := sk (neg32 x) (mag32 x)
theorem key_sgn32 (a : Bool) {b : Nat} (hb : b < 2147483648) : key32 (sgn32 a b) = sk a b := by unfold key32; rw [neg_sgn32 a hb, mag_sgn32 a hb]
theorem key_flip32 (x : Nat) : key32 (flip32 x) = -key32 x := by unfold key32; rw [neg_flip32, mag_flip32, sk_neg]
theorem key_bd32 {x : Nat} (h : isNaN32 x = false) : -2139095040 ≤ key32 x ∧ key32 x ≤ 2139095040 := sk_le (nan_not32.mp h)
theorem key_sv_le32 {x y : Nat} : key32 x ≤ key32 y ↔ sv32 x ≤ sv32 y := by
  rw [sv_sk32, sv_sk32]
  unfold key32 sk
  have h1 := @val_le_iff 23 (mag32 x) (mag32 y)
  have h2 := @val_le_iff 23 (mag32 y) (mag32 x)
  have h3 := @val_eq_zero 23 (mag32 x)
  have h4 := @val_eq_zero 23 (mag32 y)
  unfold val32
  cases neg32 x <;> cases neg32 y <;> simp only [Bool.false_eq_true, if_false, if_true] <;> omega
theorem key_sv_eq32 {x y : Nat} : key32 x = key32 y ↔ sv32 x = sv32 y := by
  have h1 := @key_sv_le32 x y
  have h2 := @key_sv_le32 y x
  omega
theorem key_sv_lt32 {x y : Nat} : key32 x < key32 y ↔ sv32 x < sv32 y := by
  have h2 := @key_sv_le32 y x
  omega
theorem sv_zero_iff32 {x : Nat} : sv32 x = 0 ↔ mag32 x = 0 := by
  have h3 := @val_eq_zero 23 (mag32 x)
  rw [sv_sk32]
  unfold sk val32
  cases neg32 x <;> simp only [Bool.false_eq_true, if_false, if_true] <;> omega
theorem rmin_lt32 (A B : Nat) : min (rn 23 A B) 2139095040 < 2147483648 := by have := Nat.min_le_right (rn 23 A B) 2139095040; omega
theorem neg_rd32 (a : Bool) (A B : Nat) : neg32 (rd32 a A B) = a := neg_sgn32 a (rmin_lt32 A B)
theorem mag_rd32 (a : Bool) (A B : Nat) : mag32 (rd32 a A B) = min (rn 23 A B) 2139095040 := mag_sgn32 a (rmin_lt32 A B)
theorem key_rd32 (a : Bool) (A B : Nat) : key32 (rd32 a A B) = sk a (min (rn 23 A B) 2139095040) := key_sgn32 a (rmin_lt32 A B)
theorem nan_rd32 (a : Bool) (A B : Nat) : isNaN32 (rd32 a A B) = false := nan_not32.mpr (by rw [mag_rd32]; exact Nat.min_le_right _ _)
theorem flip_rd32 (a : Bool) (A B : Nat) : flip32 (rd32 a A B) = rd32 (!a) A B := flip_sgn32 a (rmin_lt32 A B)
theorem rd_congr32 (a : Bool) {A B A' B' : Nat} (hB : 0 < B) (hB' : 0 < B') (h : A * B' = A' * B) : rd32 a A B = rd32 a A' B' := by
  unfold rd32; rw [rn_congr (by omega) hB hB' h]
theorem rd_val32 (a : Bool) {A B b : Nat} (hB : 0 < B) (h : A = val 23 b * B) (hb : b ≤ 2139095040) : rd32 a A B = sgn32 a b := by
  unfold rd32; rw [rn_of_val hB h, Nat.min_eq_left hb]
theorem rd_mulval32 {x : Nat} (a : Bool) {B : Nat} (hB : 0 < B) (hf : mag32 x ≤ 2139095040) : rd32 a (val32 x * B) B = sgn32 a (mag32 x) := rd_val32 a hB rfl hf
/-- the nearest float's place, of a number with a sign -/
noncomputable def rk32 (s : Int) : Int := sk (decide (s < 0)) (min (rn 23 s.natAbs 1) 2139095040)
theorem rk_neg32 (s : Int) : rk32 (-s) = -rk32 s := by
  unfold rk32
  rw [Int.natAbs_neg]
  rcases Int.lt_trichotomy s 0 with h | h | h
  · rw [decide_eq_true h, decide_eq_false (show ¬ -s < 0 by omega)]; simp [sk]
  · subst h; simp [sk, rn_zero]
  · rw [decide_eq_false (show ¬ s < 0 by omega), decide_eq_true (show -s < 0 by omega)]; simp [sk]
theorem rk_zero32 : rk32 0 = 0 := by unfold rk32; simp [sk, rn_zero]
theorem rk_nonneg32 {s : Int} (h : 0 ≤ s) : 0 ≤ rk32 s := by unfold rk32; rw [decide_eq_false (by omega)]; simp only [sk, Bool.false_eq_true, if_false]; omega
theorem rk_pmono32 {s t : Int} (h0 : 0 ≤ s) (h : s ≤ t) : rk32 s ≤ rk32 t := by
  unfold rk32
  have := rn_mono (F := 23) (A := s.natAbs) (B := 1) (A' := t.natAbs) (B' := 1) (by omega) (by omega) (by omega) (by omega)
  rw [decide_eq_false (by omega), decide_eq_false (by omega)]
  simp only [sk, Bool.false_eq_true, if_false]
  omega
theorem rk_mono32 {s t : Int} (h : s ≤ t) : rk32 s ≤ rk32 t := by
  rcases Int.lt_or_le s 0 with h1 | h1
  · rcases Int.lt_or_le t 0 with h2 | h2
    · have := rk_pmono32 (s := -t) (t := -s) (by omega) (by omega)
      rw [rk_neg32, rk_neg32] at this
      omega
    · have h3 := rk_nonneg32 h2
      have h4 := rk_nonneg32 (s := -s) (by omega)
      rw [rk_neg32] at h4
      omega
  · exact rk_pmono32 h1 h
theorem rk_sv32 {x : Nat} (h : mag32 x ≤ 2139095040) : rk32 (sv32 x) = key32 x := by
  have e : rn 23 (val32 x) 1 = mag32 x := rn_val
  have hz := @sv_zero_iff32 x
  unfold rk32 key32
  have hn : (sv32 x).natAbs = val32 x := by rw [sv_sk32]; unfold sk; cases neg32 x <;> simp
  rw [hn, e, Nat.min_eq_left h]
  rcases Nat.eq_zero_or_pos (mag32 x) with h0 | h0
  · rw [h0]; simp [sk]
  · have hp := val_pos32 h0
    congr 1
    rw [sv_sk32]
    unfold sk
    cases neg32 x
    · simp only [Bool.false_eq_true, if_false]; exact decide_eq_false (by omega)
    · simp only [if_true]; exact decide_eq_true (by omega)
theorem key_addf32 (x y : Nat) : key32 (addf32 x y) = rk32 (sv32 x + sv32 y) := by
  unfold addf32
  by_cases h : sv32 x + sv32 y = 0
  · rw [if_pos h, h, rk_zero32]
    split
    · decide
    · decide
  · rw [if_neg h, key_rd32]; rfl
theorem addf_lt32 (x y : Nat) : addf32 x y < 4294967296 := by
  unfold addf32
  split
  · split <;> omega
  · exact rd_lt32 _ _ _
theorem nan_addf32 (x y : Nat) : isNaN32 (addf32 x y) = false := by
  unfold addf32
  split
  · split <;> decide
  · exact nan_rd32 _ _ _
/-- the sign of a sum that is not 0 -/
theorem neg_addf32 {x y : Nat} (h : sv32 x + sv32 y ≠ 0) : neg32 (addf32 x y) = decide (sv32 x + sv32 y < 0) := by
  unfold addf32; rw [if_neg h, neg_rd32]
theorem mag_addf32 (x y : Nat) : mag32 (addf32 x y) = min (rn 23 (sv32 x + sv32 y).natAbs 1) 2139095040 := by
  unfold addf32
  by_cases h : sv32 x + sv32 y = 0
  · rw [if_pos h, h]
    simp only [Int.natAbs_zero, rn_zero (by omega : 0 < 1), Nat.zero_min]
    split <;> decide
  · rw [if_neg h, mag_rd32]
theorem add_lt32 {x y : Nat} (hx : x < 4294967296) (hy : y < 4294967296) : add32 x y < 4294967296 := by
  unfold add32
  split
  · omega
  · split
    · exact hx
    · split
      · exact hy
      · exact addf_lt32 x y
theorem mul_lt32 (x y : Nat) : mul32 x y < 4294967296 := by
  unfold mul32
  split
  · omega
  · split
    · exact sgn_lt32 _ (by omega)
    · exact rd_lt32 _ _ _
theorem div_lt32 (x y : Nat) : div32 x y < 4294967296 := by
  unfold div32
  split
  · omega
  · split
    · exact sgn_lt32 _ (by omega)
    · split
      · exact sgn_lt32 _ (by omega)
      · exact rd_lt32 _ _ _
/-- the same bits, or both NaNs -/
def alikeB32 (a b : Nat) : Bool := decide (a = b) || (isNaN32 a && isNaN32 b)
theorem alike_self32 (a : Nat) : alikeB32 a a = true := by simp [alikeB32]
end Go.Proofs.Ytpjanmahbimhkaa.SF
