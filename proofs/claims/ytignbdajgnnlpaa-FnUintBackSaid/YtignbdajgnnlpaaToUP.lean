/-
  Plain mathematics: floats that are made whole numbers without a sign.
-/
import Derived.Test.YtignbdajgnnlpaaUintP
import Derived.Test.YtignbdajgnnlpaaOrdK
import Derived.Test.YtignbdajgnnlpaaAlgC
namespace Go.Proofs.Ytignbdajgnnlpaa.SF
open Go.RowKit
set_option linter.unusedVariables false

theorem val_m63 : val64 4890909195324358656 = 2 ^ 63 * 2 ^ 1074 := by
  have e : mag64 4890909195324358656 = (1085 + 1) * 2 ^ 52 := by decide
  exact ((congrArg (val 52) e).trans (val_topL (F := 52) (T := 1085) (L := 1137) rfl)).trans (pow_cat (a := 63) (b := 1074) (c := 1137) rfl).symm
theorem wh_lt_m {x : Nat} : wh64 x < 9223372036854775808 ↔ mag64 x < 4890909195324358656 := by
  have h1 : wh64 x < 9223372036854775808 ↔ val64 x < 9223372036854775808 * 2 ^ 1074 := Nat.div_lt_iff_lt_mul (two_pow_pos 1074)
  have h2 : (9223372036854775808 : Nat) = 2 ^ 63 := rfl
  rw [h1, h2, ← val_m63]
  exact val_lt_iff 52
theorem gt_big {x : Nat} (hx : x < 18446744073709551616) (nx : isNaN64 x = false) : gtB 4890909195324358656 x = (neg64 x || decide (wh64 x < 9223372036854775808)) := by
  rw [gtB_key (by omega) hx (by decide) nx, show key64 4890909195324358656 = 4890909195324358656 by decide]
  unfold key64 sk
  cases neg64 x
  · simp only [Bool.false_eq_true, if_false, Bool.false_or]
    rw [Bool.eq_iff_iff, decide_eq_true_iff, decide_eq_true_iff, wh_lt_m]
    omega
  · simp only [if_true, Bool.true_or]
    exact decide_eq_true (by omega)
theorem widen_m : widen 1593835520 = 4890909195324358656 := by
  obtain ⟨h1, h2, h3⟩ := widen_fin (x := 1593835520) (by decide)
  have hn := widen_neg (x := 1593835520) (by decide)
  have e : mag32 1593835520 = (189 + 1) * 2 ^ 23 := by decide
  have hv : val32 1593835520 = 2 ^ 212 := (congrArg (val 23) e).trans (val_topL (F := 23) (T := 189) (L := 212) rfl)
  rw [hv, pow_cat (a := 212) (b := 925) (c := 1137) rfl] at h3
  have h4 : val64 4890909195324358656 = 2 ^ 1137 := val_m63.trans (pow_cat (a := 63) (b := 1074) (c := 1137) rfl)
  refine bits_eq64 ?_ (by decide) (by rw [hn]; decide) (val_inj 52 (h3.trans h4.symm))
  unfold widen
  split
  · decide
  · split
    · exact sgn_lt64 _ (by omega)
    · exact rd_lt64 _ _ _
/-- a great float less 2 to the power of -61 is itself -/
theorem sub_tiny64 {x : Nat} (hx : x < 18446744073709551616) (fx : fin64 x = true) (nx : neg64 x = false) (h : 9223372036854775808 ≤ wh64 x) : add64 x 13555834878385192960 = x := by
  have hv : 2 ^ (52 + 1 + 1084) ≤ val 52 (mag64 x) := by
    have h1 := (Nat.le_div_iff_mul_le (two_pow_pos 1074)).mp h
    rw [show (9223372036854775808 : Nat) = 2 ^ 63 from rfl, pow_cat (a := 63) (b := 1074) (c := 52 + 1 + 1084) rfl] at h1
    exact h1
  have e : mag64 13555834878385192960 = (961 + 1) * 2 ^ 52 := by decide
  have ht : val64 13555834878385192960 = 2 ^ 1013 := (congrArg (val 52) e).trans (val_topL (F := 52) (T := 961) (L := 1013) rfl)
  have hδ : 2 * 2 ^ 1013 < 2 ^ 1084 := by
    have := Nat.pow_lt_pow_right (a := 2) (by omega) (show 1014 < 1084 by omega)
    have e2 := pow_succ2 1013
    rw [show 1013 + 1 = 1014 from rfl] at e2
    omega
  have hr := rn_less hv hδ
  have hle : 2 ^ 1013 < val64 x := by
    have h2 := Nat.pow_lt_pow_right (a := 2) (by omega) (show 1013 < 52 + 1 + 1084 by omega)
    exact Nat.lt_of_lt_of_le h2 hv
  have hlx := fin_iff64.mp fx
  rw [add_ff64 fx (by decide)]
  have sx : sv64 x = val64 x := by rw [sv_sk64, nx]; rfl
  have sc : sv64 13555834878385192960 = -((2 ^ 1013 : Nat) : Int) := by rw [sv_sk64, ht]; rfl
  unfold addf64 rd64
  rw [sx, sc]
  have hvd : val64 x = val 52 (mag64 x) := rfl
  rw [← hvd] at hr
  generalize 2 ^ 1013 = t at *
  generalize 2 ^ 1084 = t2 at *
  rw [if_neg (by omega), decide_eq_false (by omega), show ((val64 x : Int) + -(t : Int)).natAbs = val64 x - t by omega, hr, Nat.min_eq_left (by omega)]
  have := sgn_mag64 hx
  rw [nx] at this
  exact this
theorem sub_tiny32 {x : Nat} (hx : x < 4294967296) (fx : fin32 x = true) (nx : neg32 x = false) (h : 9223372036854775808 ≤ wh32 x) : add32 x 2701131776 = x := by
  have hv : 2 ^ (23 + 1 + 188) ≤ val 23 (mag32 x) := by
    have h1 := (Nat.le_div_iff_mul_le (two_pow_pos 149)).mp h
    rw [show (9223372036854775808 : Nat) = 2 ^ 63 from rfl, pow_cat (a := 63) (b := 149) (c := 23 + 1 + 188) rfl] at h1
    exact h1
  have e : mag32 2701131776 = (65 + 1) * 2 ^ 23 := by decide
  have ht : val32 2701131776 = 2 ^ 88 := (congrArg (val 23) e).trans (val_topL (F := 23) (T := 65) (L := 88) rfl)
  have hδ : 2 * 2 ^ 88 < 2 ^ 188 := by decide
  have hr := rn_less hv hδ
  have hle : 2 ^ 88 < val32 x := by
    have h2 : (2 : Nat) ^ 88 < 2 ^ (23 + 1 + 188) := by decide
    exact Nat.lt_of_lt_of_le h2 hv
  have hlx := fin_iff32.mp fx
  rw [add_ff32 fx (by decide)]
  have sx : sv32 x = val32 x := by rw [sv_sk32, nx]; rfl
  have sc : sv32 2701131776 = -((2 ^ 88 : Nat) : Int) := by rw [sv_sk32, ht]; rfl
  unfold addf32 rd32
  rw [sx, sc]
  have hvd : val32 x = val 23 (mag32 x) := rfl
  rw [← hvd] at hr
  generalize 2 ^ 88 = t at *
  generalize 2 ^ 188 = t2 at *
  rw [if_neg (by omega), decide_eq_false (by omega), show ((val32 x : Int) + -(t : Int)).natAbs = val32 x - t by omega, hr, Nat.min_eq_left (by omega)]
  have := sgn_mag32 hx
  rw [nx] at this
  exact this
theorem or_one_nat (a : Nat) : a ||| 1 = a / 2 * 2 + 1 := by
  have h1 : (a / 2 * 2) ||| 1 = a / 2 * 2 + 1 := or_disjoint _ _ 1 (by omega) (by omega)
  rcases Nat.mod_two_eq_zero_or_one a with g | g
  · have e : a / 2 * 2 = a := by omega
    rw [e] at h1
    rw [h1, e]
  · have e : a = (a / 2 * 2) ||| 1 := by rw [h1]; omega
    have e2 : a ||| 1 = ((a / 2 * 2) ||| 1) ||| 1 := by rw [← e]
    rw [e2, Nat.or_assoc, Nat.or_self, h1]
theorem or_half {x : Nat} (hx : x < 18446744073709551616) : bits .or .u64 ((x / 2 : Nat) : Int) ((x % 2 : Nat) : Int) = ((half1 x : Nat) : Int) := by
  rw [u64_or_nat _ _ (by omega) (by omega)]
  congr 1
  unfold half1
  rcases Nat.mod_two_eq_zero_or_one x with g | g
  · rw [g, Nat.or_zero, Nat.add_zero]; split <;> rfl
  · rw [g, or_one_nat]; split <;> omega
theorem or_top {x : Nat} (h : 9223372036854775808 ≤ x) (hx : x < 18446744073709551616) : bits .or .u64 (x : Int) 9223372036854775808 = (x : Int) := by
  rw [show (9223372036854775808 : Int) = ((9223372036854775808 : Nat) : Int) from rfl, u64_or_nat _ _ (by omega) (by omega)]
  congr 1
  have e : 9223372036854775808 ||| (x - 9223372036854775808) = x := by
    rw [or_disjoint _ _ 63 (by decide) (by omega)]; omega
  have e2 : x ||| 9223372036854775808 = (9223372036854775808 ||| (x - 9223372036854775808)) ||| 9223372036854775808 := by rw [e]
  rw [e2, Nat.or_comm, ← Nat.or_assoc, Nat.or_self, e]
theorem wrap_back {n : Nat} (h : n < 18446744073709551616) : IntKind.u64.wrap (IntKind.i64.wrap (n : Int)) = (n : Int) := by
  rw [IntKind.wrap_u64]
  unfold IntKind.wrap
  simp only [IntKind.bits, IntKind.signed]
  omega
end Go.Proofs.Ytignbdajgnnlpaa.SF
