/-
  Plain definitions: the fields and the size of bits.
-/
import Derived.Test.YtpjanmahbimhkaaUnp
namespace Go.Proofs.Ytpjanmahbimhkaa.SF
open Go.RowKit

/-- exponent field and fraction field -/
def fe64 (x : Nat) : Nat := mag64 x / 4503599627370496
def ff64 (x : Nat) : Nat := mag64 x % 4503599627370496
theorem fe_lt64 (x : Nat) : fe64 x ≤ 2047 := by have := mag_lt64 x; unfold fe64; omega
theorem ff_lt64 (x : Nat) : ff64 x < 4503599627370496 := by unfold ff64; omega
theorem mag_fe64 (x : Nat) : mag64 x = fe64 x * 4503599627370496 + ff64 x := by unfold fe64 ff64; omega
/-- whether the sign bit is 1 -/
def neg64 (x : Nat) : Bool := decide (9223372036854775808 ≤ x)
def fin64 (x : Nat) : Bool := decide (mag64 x < 9218868437227405312)
def isZero64 (x : Nat) : Bool := decide (mag64 x = 0)
/-- the size of a finite number: sm times 2 to the power of se, in units of the smallest number -/
def sm64 (x : Nat) : Nat := if fe64 x = 0 then ff64 x else 4503599627370496 + ff64 x
def se64 (x : Nat) : Nat := fe64 x - 1
theorem val_sm64 (x : Nat) : val64 x = sm64 x * 2 ^ se64 x := by
  have h1 := mag_fe64 x
  have h3 := ff_lt64 x
  show val 52 (mag64 x) = _
  unfold sm64 se64 val
  by_cases hE : fe64 x = 0
  · rw [if_pos (show mag64 x < 4503599627370496 by omega), if_pos hE, hE, h1, hE]; simp
  · rw [if_neg (show ¬ mag64 x < 4503599627370496 by omega), if_neg hE]
    show (4503599627370496 + mag64 x % 4503599627370496) * 2 ^ (mag64 x / 4503599627370496 - 1) = _
    rfl
theorem sm_lt64 (x : Nat) : sm64 x < 9007199254740992 := by
  have h3 := ff_lt64 x
  unfold sm64; split <;> omega
theorem se_lt64 (x : Nat) : se64 x < 2047 := by
  have h3 := fe_lt64 x
  unfold se64; omega
theorem sm_zero64 (x : Nat) : sm64 x = 0 ↔ mag64 x = 0 := by
  have h1 := mag_fe64 x
  have h3 := ff_lt64 x
  unfold sm64; split <;> omega
def sgn64 (neg : Bool) (b : Nat) : Nat := (if neg then 9223372036854775808 else 0) + b
/-- exponent field and fraction field -/
def fe32 (x : Nat) : Nat := mag32 x / 8388608
def ff32 (x : Nat) : Nat := mag32 x % 8388608
theorem fe_lt32 (x : Nat) : fe32 x ≤ 255 := by have := mag_lt32 x; unfold fe32; omega
theorem ff_lt32 (x : Nat) : ff32 x < 8388608 := by unfold ff32; omega
theorem mag_fe32 (x : Nat) : mag32 x = fe32 x * 8388608 + ff32 x := by unfold fe32 ff32; omega
/-- whether the sign bit is 1 -/
def neg32 (x : Nat) : Bool := decide (2147483648 ≤ x)
def fin32 (x : Nat) : Bool := decide (mag32 x < 2139095040)
def isZero32 (x : Nat) : Bool := decide (mag32 x = 0)
/-- the size of a finite number: sm times 2 to the power of se, in units of the smallest number -/
def sm32 (x : Nat) : Nat := if fe32 x = 0 then ff32 x else 8388608 + ff32 x
def se32 (x : Nat) : Nat := fe32 x - 1
theorem val_sm32 (x : Nat) : val32 x = sm32 x * 2 ^ se32 x := by
  have h1 := mag_fe32 x
  have h3 := ff_lt32 x
  show val 23 (mag32 x) = _
  unfold sm32 se32 val
  by_cases hE : fe32 x = 0
  · rw [if_pos (show mag32 x < 8388608 by omega), if_pos hE, hE, h1, hE]; simp
  · rw [if_neg (show ¬ mag32 x < 8388608 by omega), if_neg hE]
    show (8388608 + mag32 x % 8388608) * 2 ^ (mag32 x / 8388608 - 1) = _
    rfl
theorem sm_lt32 (x : Nat) : sm32 x < 16777216 := by
  have h3 := ff_lt32 x
  unfold sm32; split <;> omega
theorem se_lt32 (x : Nat) : se32 x < 255 := by
  have h3 := fe_lt32 x
  unfold se32; omega
theorem sm_zero32 (x : Nat) : sm32 x = 0 ↔ mag32 x = 0 := by
  have h1 := mag_fe32 x
  have h3 := ff_lt32 x
  unfold sm32; split <;> omega
def sgn32 (neg : Bool) (b : Nat) : Nat := (if neg then 2147483648 else 0) + b
end Go.Proofs.Ytpjanmahbimhkaa.SF
