/-
  Plain mathematics: a float's bits, taken apart.
-/
import Derived.Test.YtpjanmahbimhkaaBits
namespace Go.Proofs.Ytpjanmahbimhkaa.SF
open Go.RowKit

/-- mantissa and exponent of the rung b of a format (F: bits of the fraction, T: the top exponent, eb: the bias) -/
def um (F T b : Nat) : Nat :=
  if b / 2 ^ F = 0 then (if b % 2 ^ F = 0 then 0 else b % 2 ^ F * 2 ^ (F - (b % 2 ^ F).log2)) else if b / 2 ^ F = T then b % 2 ^ F else 2 ^ F + b % 2 ^ F
def ue (F T eb b : Nat) : Int :=
  if b / 2 ^ F = 0 then (if b % 2 ^ F = 0 then 0 else 1 - eb - ((F - (b % 2 ^ F).log2 : Nat) : Int)) else if b / 2 ^ F = T then T else ((b / 2 ^ F : Nat) : Int) - eb

theorem log2_pow_le {n : Nat} (h : 0 < n) : 2 ^ n.log2 ≤ n := Nat.log2_self_le (by omega)
theorem log2_pow_lt (n : Nat) : n < 2 ^ (n.log2 + 1) := Nat.lt_log2_self

/-- Of a number that is neither 0 nor beyond the finite ones. -/
theorem um_fin {F T eb b : Nat} (h0 : 0 < b) (hT : b < T * 2 ^ F) :
    2 ^ F ≤ um F T b ∧ um F T b < 2 ^ (F + 1) ∧ ∃ t : Nat, (t : Int) = ue F T eb b + eb - 1 + F ∧ um F T b * 2 ^ t = val F b * 2 ^ F := by
  have hp := two_pow_pos F
  have hd := Nat.div_add_mod b (2 ^ F)
  have hm := Nat.mod_lt b hp
  have hT' : b / 2 ^ F < T := (Nat.div_lt_iff_lt_mul hp).mpr hT
  unfold um ue val
  by_cases hE : b / 2 ^ F = 0
  · rw [if_pos hE, if_pos hE]
    rw [hE, Nat.mul_zero, Nat.zero_add] at hd
    have hb : b < 2 ^ F := by omega
    rw [if_pos hb, hd, if_neg (by omega), if_neg (by omega)]
    have h1 := log2_pow_le h0
    have h2 := log2_pow_lt b
    have hl : b.log2 < F := by
      have : 2 ^ b.log2 < 2 ^ F := by omega
      exact (Nat.pow_lt_pow_iff_right (by omega)).mp this
    refine ⟨?_, ?_, b.log2, by omega, ?_⟩
    · have e : 2 ^ F = 2 ^ b.log2 * 2 ^ (F - b.log2) := by rw [← Nat.pow_add]; congr 1; omega
      calc 2 ^ F = 2 ^ b.log2 * 2 ^ (F - b.log2) := e
        _ ≤ b * 2 ^ (F - b.log2) := Nat.mul_le_mul_right _ h1
    · calc b * 2 ^ (F - b.log2) < 2 ^ (b.log2 + 1) * 2 ^ (F - b.log2) := Nat.mul_lt_mul_of_pos_right h2 (two_pow_pos _)
        _ = 2 ^ (F + 1) := by rw [← Nat.pow_add]; congr 1; omega
    · rw [Nat.mul_assoc, ← Nat.pow_add]; congr 2; omega
  · rw [if_neg hE, if_neg hE, if_neg (by omega), if_neg (by omega)]
    have hb : ¬ b < 2 ^ F := fun h => hE (Nat.div_eq_of_lt h)
    rw [if_neg hb]
    refine ⟨by omega, by rw [pow_succ2]; omega, b / 2 ^ F - 1 + F, ?_, ?_⟩
    · have h1 : 1 ≤ b / 2 ^ F := Nat.one_le_iff_ne_zero.mpr hE
      generalize b / 2 ^ F = q at *
      omega
    · rw [Nat.pow_add, Nat.mul_assoc]

theorem um_zero (F T : Nat) : um F T 0 = 0 := by simp [um]
theorem ue_zero (F T eb : Nat) : ue F T eb 0 = 0 := by simp [ue]

theorem and_i64_nat (a b : Nat) (ha : a < 9223372036854775808) (hb : b < 9223372036854775808) : bits .and .i64 (a : Int) (b : Int) = ((a &&& b : Nat) : Int) := by
  have h1 : (BitVec.ofInt 64 (a : Int)).toNat = a := by
    rw [BitVec.ofInt_natCast, BitVec.toNat_ofNat]; exact Nat.mod_eq_of_lt (by omega)
  have h2 : (BitVec.ofInt 64 (b : Int)).toNat = b := by
    rw [BitVec.ofInt_natCast, BitVec.toNat_ofNat]; exact Nat.mod_eq_of_lt (by omega)
  have h3 : a &&& b ≤ a := Nat.and_le_left
  show IntKind.i64.wrap ((BitVec.ofInt 64 (a : Int) &&& BitVec.ofInt 64 (b : Int)).toNat : Int) = _
  rw [BitVec.toNat_and, h1, h2]
  simp [IntKind.wrap, IntKind.bits, IntKind.signed]
  omega

/-- the sign bit in its place, and the rung, of bits of 64 -/
def sb64 (x : Nat) : Nat := x / 9223372036854775808 * 9223372036854775808
def mag64 (x : Nat) : Nat := x % 9223372036854775808
def isNaN64 (x : Nat) : Bool := decide (9218868437227405312 < mag64 x)
def isInf64 (x : Nat) : Bool := decide (mag64 x = 9218868437227405312)
def um64 (x : Nat) : Nat := um 52 2047 (mag64 x)
def ue64 (x : Nat) : Int := ue 52 2047 1023 (mag64 x)
def val64 (x : Nat) : Nat := val 52 (mag64 x)

theorem sb_add_mag64 (x : Nat) : sb64 x + mag64 x = x := by
  unfold sb64 mag64
  have := Nat.div_add_mod x 9223372036854775808
  omega
theorem sb_cases64 {x : Nat} (hx : x < 18446744073709551616) : Sg64 (sb64 x) := by
  unfold sb64 Sg64
  omega
theorem mag_lt64 (x : Nat) : mag64 x < 9223372036854775808 := by unfold mag64; omega
theorem mag_of64 {sg b : Nat} (h : Sg64 sg) (hb : b < 9223372036854775808) : mag64 (sg + b) = b ∧ sb64 (sg + b) = sg := by
  unfold mag64 sb64
  rcases h with rfl | rfl <;> constructor <;> omega

theorem unp_and164 {x : Nat} (hx : x < 18446744073709551616) : bits .and .u64 (x : Int) 9223372036854775808 = (sb64 x : Int) := by
  have := u64_and_nat x 9223372036854775808 hx (by omega)
  have hb := nat_bit 63 x
  rw [show (2 : Nat) ^ 63 = 9223372036854775808 from rfl] at hb
  rw [hb] at this
  rw [show ((9223372036854775808 : Int)) = ((9223372036854775808 : Nat) : Int) from rfl, this]
  unfold sb64
  have e : x / 9223372036854775808 % 2 = x / 9223372036854775808 := by omega
  rw [e]
theorem unp_and264 {x : Nat} (hx : x < 18446744073709551616) : bits .and .u64 (x : Int) 4503599627370495 = ((mag64 x % 4503599627370496 : Nat) : Int) := by
  have := u64_and_nat x 4503599627370495 hx (by omega)
  rw [nat_mask52] at this
  rw [show ((4503599627370495 : Int)) = ((4503599627370495 : Nat) : Int) from rfl, this]
  unfold mag64
  congr 1
  omega
theorem unp_and364 {x : Nat} (hx : x < 18446744073709551616) : bits .and .i64 (wrap64 ((x : Int) / 4503599627370496)) 2047 = ((mag64 x / 4503599627370496 : Nat) : Int) := by
  have e : wrap64 ((x : Int) / 4503599627370496) = ((x / 4503599627370496 : Nat) : Int) := by
    have := IntWalk.wrap64_in ((x : Int) / 4503599627370496) ⟨by omega, by omega⟩
    rw [this]; omega
  rw [e, show ((2047 : Int)) = ((2047 : Nat) : Int) from rfl, and_i64_nat _ _ (by omega) (by omega)]
  have hm : ∀ y : Nat, y &&& 2047 = y % (2047 + 1) := fun y => by
    have := Nat.and_two_pow_sub_one_eq_mod y (63 - 52)
    simpa using this
  rw [hm]
  unfold mag64
  congr 1
  omega
/-- the sign bit in its place, and the rung, of bits of 32 -/
def sb32 (x : Nat) : Nat := x / 2147483648 * 2147483648
def mag32 (x : Nat) : Nat := x % 2147483648
def isNaN32 (x : Nat) : Bool := decide (2139095040 < mag32 x)
def isInf32 (x : Nat) : Bool := decide (mag32 x = 2139095040)
def um32 (x : Nat) : Nat := um 23 255 (mag32 x)
def ue32 (x : Nat) : Int := ue 23 255 127 (mag32 x)
def val32 (x : Nat) : Nat := val 23 (mag32 x)

theorem sb_add_mag32 (x : Nat) : sb32 x + mag32 x = x := by
  unfold sb32 mag32
  have := Nat.div_add_mod x 2147483648
  omega
theorem sb_cases32 {x : Nat} (hx : x < 4294967296) : Sg32 (sb32 x) := by
  unfold sb32 Sg32
  omega
theorem mag_lt32 (x : Nat) : mag32 x < 2147483648 := by unfold mag32; omega
theorem mag_of32 {sg b : Nat} (h : Sg32 sg) (hb : b < 2147483648) : mag32 (sg + b) = b ∧ sb32 (sg + b) = sg := by
  unfold mag32 sb32
  rcases h with rfl | rfl <;> constructor <;> omega

theorem unp_and132 {x : Nat} (hx : x < 4294967296) : bits .and .u32 (x : Int) 2147483648 = (sb32 x : Int) := by
  have := u32_and_nat x 2147483648 hx (by omega)
  have hb := nat_bit 31 x
  rw [show (2 : Nat) ^ 31 = 2147483648 from rfl] at hb
  rw [hb] at this
  rw [show ((2147483648 : Int)) = ((2147483648 : Nat) : Int) from rfl, this]
  unfold sb32
  have e : x / 2147483648 % 2 = x / 2147483648 := by omega
  rw [e]
theorem unp_and232 {x : Nat} (hx : x < 4294967296) : bits .and .u32 (x : Int) 8388607 = ((mag32 x % 8388608 : Nat) : Int) := by
  have := u32_and_nat x 8388607 hx (by omega)
  rw [nat_mask23] at this
  rw [show ((8388607 : Int)) = ((8388607 : Nat) : Int) from rfl, this]
  unfold mag32
  congr 1
  omega
theorem unp_and332 {x : Nat} (hx : x < 4294967296) : bits .and .i64 (wrap64 ((x : Int) / 8388608)) 255 = ((mag32 x / 8388608 : Nat) : Int) := by
  have e : wrap64 ((x : Int) / 8388608) = ((x / 8388608 : Nat) : Int) := by
    have := IntWalk.wrap64_in ((x : Int) / 8388608) ⟨by omega, by omega⟩
    rw [this]; omega
  rw [e, show ((255 : Int)) = ((255 : Nat) : Int) from rfl, and_i64_nat _ _ (by omega) (by omega)]
  have hm : ∀ y : Nat, y &&& 255 = y % (255 + 1) := fun y => by
    have := Nat.and_two_pow_sub_one_eq_mod y (31 - 23)
    simpa using this
  rw [hm]
  unfold mag32
  congr 1
  omega
end Go.Proofs.Ytpjanmahbimhkaa.SF
