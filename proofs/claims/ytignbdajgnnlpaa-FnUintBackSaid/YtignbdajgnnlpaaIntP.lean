/-
  Plain mathematics: whole numbers and floats.
-/
import Derived.Test.YtignbdajgnnlpaaFromP
import Derived.Test.YtignbdajgnnlpaaAlgB
import Derived.Test.YtignbdajgnnlpaaDR2
namespace Go.Proofs.Ytignbdajgnnlpaa.SF
open Go.RowKit
set_option linter.unusedVariables false

/-- a whole number with a sign that is made a float -/
noncomputable def fromS64 (n : Int) : Nat := fromN64 (decide (n < 0)) n.natAbs
noncomputable def fromS32 (n : Int) : Nat := fromN32 (decide (n < 0)) n.natAbs
theorem fromS_lt64 (n : Int) : fromS64 n < 18446744073709551616 := fromN_lt64 _ _
/-- the opposite of a whole number -/
theorem from_neg64 {n : Int} (h : n ≠ 0) : fromS64 (-n) = flip64 (fromS64 n) := by
  unfold fromS64 fromN64
  rw [flip_rd64, Int.natAbs_neg]
  congr 1
  rcases Int.lt_or_le n 0 with g | g
  · rw [decide_eq_true g, decide_eq_false (by omega)]; rfl
  · rw [decide_eq_false (show ¬ n < 0 by omega), decide_eq_true (by omega)]; rfl
theorem from_one64 : fromS64 1 = 4607182418800017408 := by
  have h := val_one64
  have hd : decide ((1 : Int) < 0) = false := by decide
  unfold fromS64 fromN64
  rw [hd, Int.natAbs_one]
  have hv : val 52 4607182418800017408 = 2 ^ 1074 := h
  generalize 2 ^ 1074 = p at *
  have := rd_val64 false (A := 1 * p) (B := 1) (b := 4607182418800017408) (by omega) (by omega) (by omega)
  rw [this]; rfl
theorem from_zero64 : fromS64 0 = 0 := by
  unfold fromS64
  have hd : decide ((0 : Int) < 0) = false := by decide
  rw [hd, Int.natAbs_zero, fromN_zero64]; rfl
theorem fromS_lt32 (n : Int) : fromS32 n < 4294967296 := fromN_lt32 _ _
/-- the opposite of a whole number -/
theorem from_neg32 {n : Int} (h : n ≠ 0) : fromS32 (-n) = flip32 (fromS32 n) := by
  unfold fromS32 fromN32
  rw [flip_rd32, Int.natAbs_neg]
  congr 1
  rcases Int.lt_or_le n 0 with g | g
  · rw [decide_eq_true g, decide_eq_false (by omega)]; rfl
  · rw [decide_eq_false (show ¬ n < 0 by omega), decide_eq_true (by omega)]; rfl
theorem from_one32 : fromS32 1 = 1065353216 := by
  have h := val_one32
  have hd : decide ((1 : Int) < 0) = false := by decide
  unfold fromS32 fromN32
  rw [hd, Int.natAbs_one]
  have hv : val 23 1065353216 = 2 ^ 149 := h
  generalize 2 ^ 149 = p at *
  have := rd_val32 false (A := 1 * p) (B := 1) (b := 1065353216) (by omega) (by omega) (by omega)
  rw [this]; rfl
theorem from_zero32 : fromS32 0 = 0 := by
  unfold fromS32
  have hd : decide ((0 : Int) < 0) = false := by decide
  rw [hd, Int.natAbs_zero, fromN_zero32]; rfl
/-- a whole number that is a float -/
theorem from_rep {n m j : Nat} (h : n = m * 2 ^ j) (hm : m ≤ 9007199254740992) (hn : n < 18446744073709551616) : ∃ b, b < 9218868437227405312 ∧ val 52 b = n * 2 ^ 1074 ∧ ∀ neg, fromN64 neg n = sgn64 neg b := by
  obtain ⟨b, hb⟩ := rep_val 52 (j + 1074) m (Nat.le_trans hm (by decide))
  have e : val 52 b = n * 2 ^ 1074 := by rw [hb, h, Nat.pow_add, Nat.mul_assoc]
  have hlt := rung_lt_inf (a := 64) (e := 1074) e hn (by omega)
  refine ⟨b, hlt, e, fun neg => ?_⟩
  unfold fromN64
  generalize 2 ^ 1074 = p at *
  exact rd_val64 neg (by omega) (by rw [e, Nat.mul_one]) (by omega)
theorem fromN_parts {n m j : Nat} (neg : Bool) (h : n = m * 2 ^ j) (hm : m ≤ 9007199254740992) (hn : n < 18446744073709551616) :
    fin64 (fromN64 neg n) = true ∧ neg64 (fromN64 neg n) = neg ∧ val64 (fromN64 neg n) = n * 2 ^ 1074 := by
  obtain ⟨b, hb, hv, he⟩ := from_rep h hm hn
  rw [he]
  refine ⟨fin_iff64.mpr (by rw [mag_sgn64 _ (by omega)]; exact hb), neg_sgn64 _ (by omega), ?_⟩
  unfold val64
  rw [mag_sgn64 _ (by omega)]; exact hv
theorem fromS_parts {n : Int} (h : n.natAbs ≤ 9007199254740992) :
    fin64 (fromS64 n) = true ∧ neg64 (fromS64 n) = decide (n < 0) ∧ val64 (fromS64 n) = n.natAbs * 2 ^ 1074 :=
  fromN_parts (m := n.natAbs) (j := 0) _ (by rw [Nat.pow_zero, Nat.mul_one]) h (by omega)
theorem fromS_sv {n : Int} (h : n.natAbs ≤ 9007199254740992) {p : Nat} (hp : p = 2 ^ 1074) : sv64 (fromS64 n) = n * (p : Int) := by
  obtain ⟨h1, h2, h3⟩ := fromS_parts h
  rw [← hp] at h3
  rw [sv_sk64, h2, h3]
  unfold sk
  rcases Int.lt_or_le n 0 with g | g
  · rw [if_pos (decide_eq_true g), Int.natCast_mul, show ((n.natAbs : Nat) : Int) = -n by omega, Int.neg_mul, Int.neg_neg]
  · rw [if_neg (by rw [decide_eq_true_iff]; omega), Int.natCast_mul, show ((n.natAbs : Nat) : Int) = n by omega]
/-- sums of whole numbers -/
theorem int_sum {c d : Int} {x y : Nat} {p : Nat} (hp : p = 2 ^ 1074) (fx : fin64 x = true) (fy : fin64 y = true) (sx : sv64 x = c * (p : Int)) (sy : sv64 y = d * (p : Int)) (hz : c + d = 0 → (neg64 x && neg64 y) = false) :
    add64 x y = fromS64 (c + d) := by
  have hpp : 0 < p := by rw [hp]; exact two_pow_pos 1074
  rw [add_ff64 fx fy]
  have e : sv64 x + sv64 y = (c + d) * (p : Int) := by rw [sx, sy, Int.add_mul]
  by_cases h0 : c + d = 0
  · rw [h0, from_zero64]
    unfold addf64
    rw [e, h0, Int.zero_mul, if_pos rfl, hz h0]; rfl
  · have hne : (c + d) * (p : Int) ≠ 0 := Int.mul_ne_zero h0 (by omega)
    unfold addf64 fromS64 fromN64
    rw [e, if_neg hne, Int.natAbs_mul, Int.natAbs_natCast, ← hp]
    congr 1
    rw [Bool.eq_iff_iff, decide_eq_true_iff, decide_eq_true_iff]
    constructor
    · intro h
      rcases Int.lt_or_le (c + d) 0 with g | g
      · exact g
      · have := Int.mul_nonneg g (show (0 : Int) ≤ p by omega)
        omega
    · intro h
      exact Int.mul_neg_of_neg_of_pos h (by omega)
theorem from_add {c d : Int} (hc : c.natAbs ≤ 4503599627370496) (hd : d.natAbs ≤ 4503599627370496) : add64 (fromS64 c) (fromS64 d) = fromS64 (c + d) := by
  obtain ⟨f1, n1, _⟩ := fromS_parts (n := c) (by omega)
  obtain ⟨f2, n2, _⟩ := fromS_parts (n := d) (by omega)
  refine int_sum rfl f1 f2 (fromS_sv (by omega) rfl) (fromS_sv (by omega) rfl) fun h => ?_
  rw [n1, n2]
  rcases Int.lt_or_le c 0 with g | g
  · rw [decide_eq_false (show ¬ d < 0 by omega), Bool.and_false]
  · rw [decide_eq_false (show ¬ c < 0 by omega), Bool.false_and]
theorem from_sub {c d : Int} (hc : c.natAbs ≤ 4503599627370496) (hd : d.natAbs ≤ 4503599627370496) : add64 (fromS64 c) (flip64 (fromS64 d)) = fromS64 (c - d) := by
  obtain ⟨f1, n1, _⟩ := fromS_parts (n := c) (by omega)
  obtain ⟨f2, n2, _⟩ := fromS_parts (n := d) (by omega)
  have hs := fromS_sv (n := d) (by omega) rfl
  have := int_sum (c := c) (d := -d) (x := fromS64 c) (y := flip64 (fromS64 d)) rfl f1 (by rw [fin_flip64]; exact f2) (fromS_sv (by omega) rfl) (by rw [sv_flip64, hs, Int.neg_mul]) fun h => by
    rw [n1, neg_flip64, n2]
    have : c = d := by omega
    rw [this]
    cases decide (d < 0) <;> rfl
  rw [this]; rfl
theorem mul_fin64' {x y : Nat} (fx : fin64 x = true) (fy : fin64 y = true) : mul64 x y = rd64 (neg64 x != neg64 y) (val64 x * val64 y) (2 ^ 1074) := by
  have a := fin_nan64 fx
  have b := fin_nan64 fy
  unfold mul64; rw [a.1, a.2, b.1, b.2]
  generalize 2 ^ 1074 = p
  cases isZero64 x <;> cases isZero64 y <;> rfl
theorem from_mul {a b : Int} (ha : a.natAbs ≤ 67108864) (hb : b.natAbs ≤ 67108864) : mul64 (fromS64 a) (fromS64 b) = fromN64 (decide (a < 0) != decide (b < 0)) (a * b).natAbs := by
  obtain ⟨f1, n1, v1⟩ := fromS_parts (n := a) (by omega)
  obtain ⟨f2, n2, v2⟩ := fromS_parts (n := b) (by omega)
  rw [mul_fin64' f1 f2, n1, n2, v1, v2]
  unfold fromN64
  have hp := two_pow_pos 1074
  generalize 2 ^ 1074 = p at *
  refine rd_congr64 _ hp (by omega) ?_
  rw [Nat.mul_one, Int.natAbs_mul]
  ac_rfl
theorem key_from (neg neg' : Bool) {n : Nat} (h : n ≠ 0 → neg = neg') : key64 (fromN64 neg n) = key64 (fromN64 neg' n) := by
  rcases Nat.eq_zero_or_pos n with g | g
  · subst g
    rw [fromN_zero64, fromN_zero64, key_sgn64 _ (by omega), key_sgn64 _ (by omega)]
    simp [sk]
  · rw [h (by omega)]
theorem sign_mul {a b : Int} (h : (a * b).natAbs ≠ 0) : (decide (a < 0) != decide (b < 0)) = decide (a * b < 0) := by
  have ha : a ≠ 0 := by rintro rfl; simp at h
  have hb : b ≠ 0 := by rintro rfl; simp at h
  rcases Int.lt_or_le a 0 with g | g <;> rcases Int.lt_or_le b 0 with k | k
  · have := Int.mul_pos_of_neg_of_neg g k
    rw [decide_eq_true g, decide_eq_true k, decide_eq_false (by omega)]; rfl
  · have := Int.mul_neg_of_neg_of_pos g (show 0 < b by omega)
    rw [decide_eq_true g, decide_eq_false (show ¬ b < 0 by omega), decide_eq_true this]; rfl
  · have := Int.mul_neg_of_pos_of_neg (show 0 < a by omega) k
    rw [decide_eq_false (show ¬ a < 0 by omega), decide_eq_true k, decide_eq_true this]; rfl
  · have := Int.mul_pos (show 0 < a by omega) (show 0 < b by omega)
    rw [decide_eq_false (show ¬ a < 0 by omega), decide_eq_false (show ¬ b < 0 by omega), decide_eq_false (by omega)]; rfl
theorem from_mul_key {a b : Int} (ha : a.natAbs ≤ 67108864) (hb : b.natAbs ≤ 67108864) : key64 (mul64 (fromS64 a) (fromS64 b)) = key64 (fromS64 (a * b)) := by
  rw [from_mul ha hb]
  exact key_from _ _ sign_mul
theorem div_fin64' {x y : Nat} (fx : fin64 x = true) (fy : fin64 y = true) (hy : isZero64 y = false) : div64 x y = rd64 (neg64 x != neg64 y) (val64 x * 2 ^ 1074) (val64 y) := by
  have a := fin_nan64 fx
  have b := fin_nan64 fy
  unfold div64; rw [a.1, a.2, b.1, b.2, hy]
  generalize 2 ^ 1074 = p
  cases isZero64 x <;> rfl
theorem from_div {a b : Int} (ha : a.natAbs ≤ 67108864) (hb : b.natAbs ≤ 67108864) (a0 : a ≠ 0) (b0 : b ≠ 0) : div64 (fromS64 (a * b)) (fromS64 b) = fromS64 a := by
  have hab : (a * b).natAbs ≤ 9007199254740992 := by
    rw [Int.natAbs_mul]
    exact Nat.le_trans (Nat.mul_le_mul ha hb) (by omega)
  obtain ⟨f1, n1, v1⟩ := fromS_parts hab
  obtain ⟨f2, n2, v2⟩ := fromS_parts (n := b) (by omega)
  have hp := two_pow_pos 1074
  have hv2 : 0 < val64 (fromS64 b) := by rw [v2]; exact Nat.mul_pos (by omega) hp
  have hz : isZero64 (fromS64 b) = false := by
    refine zero_not64.mpr fun h => ?_
    have : val64 (fromS64 b) = 0 := by unfold val64; rw [h, val_zero]
    omega
  rw [div_fin64' f1 f2 hz, n1, n2]
  have hs : (decide (a * b < 0) != decide (b < 0)) = decide (a < 0) := by
    rw [← sign_mul (Int.natAbs_ne_zero.mpr (Int.mul_ne_zero a0 b0))]
    cases decide (a < 0) <;> cases decide (b < 0) <;> rfl
  rw [hs]
  rw [v2] at hv2 ⊢
  rw [v1]
  unfold fromS64 fromN64
  generalize 2 ^ 1074 = p at *
  refine rd_congr64 _ hv2 (by omega) ?_
  rw [Nat.mul_one, Int.natAbs_mul]
  ac_rfl

/-- the whole part of a finite float's size -/
def wh64 (x : Nat) : Nat := val64 x / 2 ^ 1074
def wh32 (x : Nat) : Nat := val32 x / 2 ^ 149
theorem wh_widen {x : Nat} (h : fin32 x = true) : wh64 (widen x) = wh32 x := by
  unfold wh64 wh32
  rw [(widen_fin h).2.2, ← pow_cat (a := 149) (b := 925) (c := 1074) rfl]
  have hp := two_pow_pos 925
  generalize 2 ^ 925 = p at *
  exact Nat.mul_div_mul_right _ _ hp
theorem wh_from {n m j : Nat} (neg : Bool) (h : n = m * 2 ^ j) (hm : m ≤ 9007199254740992) (hn : n < 18446744073709551616) : wh64 (fromN64 neg n) = n := by
  unfold wh64
  rw [(fromN_parts neg h hm hn).2.2]
  exact Nat.mul_div_cancel _ (two_pow_pos 1074)
/-- what a float is made as an int64, and whether it can be -/
def tiB (x : Nat) : Bool := fin64 x && decide (wh64 x < 18446744073709551616) && decide (-1 ≤ ue64 x)
def tiS (neg : Bool) (n : Nat) : Int := if neg then IntKind.i64.wrap (-(IntKind.i64.wrap (n : Int))) else IntKind.i64.wrap (n : Int)
def tiV (x : Nat) : Int := if fin64 x && decide (wh64 x < 18446744073709551616) then tiS (neg64 x) (wh64 x) else 0
theorem wrap_i64_in {n : Int} (h : -9223372036854775808 ≤ n ∧ n ≤ 9223372036854775807) : IntKind.i64.wrap n = n := IntWalk.i64_in _ h
theorem tiS_small {neg : Bool} {n : Nat} (h : n < 9223372036854775808) : tiS neg n = sk neg n := by
  unfold tiS sk
  rw [wrap_i64_in (n := (n : Int)) (by omega), wrap_i64_in (n := -(n : Int)) (by omega)]
theorem tiV_small {x : Nat} (hf : fin64 x = true) (h : wh64 x < 9223372036854775808) : tiV x = sk (neg64 x) (wh64 x) := by
  unfold tiV
  rw [hf, decide_eq_true (by omega)]
  exact tiS_small h
theorem tiV_from {n : Int} (h : n.natAbs ≤ 9007199254740992) : tiV (fromS64 n) = n := by
  obtain ⟨f1, n1, v1⟩ := fromS_parts h
  have hw : wh64 (fromS64 n) = n.natAbs := wh_from (m := n.natAbs) (j := 0) _ (by rw [Nat.pow_zero, Nat.mul_one]) h (by omega)
  rw [tiV_small f1 (by omega), n1, hw]
  unfold sk
  split
  · rename_i hd; have := of_decide_eq_true hd; omega
  · rename_i hd; have := of_decide_eq_false (Bool.not_eq_true _ ▸ hd); omega
/-- mantissa and exponent, and the whole part -/
theorem wh_hi {um t u v : Nat} (hv : um * 2 ^ t = v * 2 ^ 52) (ht : t = u + 1126) : v / 2 ^ 1074 = um * 2 ^ u := by
  have e : v = um * 2 ^ u * 2 ^ 1074 := by
    apply Nat.eq_of_mul_eq_mul_right (two_pow_pos 52)
    rw [← hv, ht, show u + 1126 = u + (1074 + 52) from rfl, Nat.pow_add, Nat.pow_add 2 1074 52]
    generalize 2 ^ 1074 = p
    generalize 2 ^ 52 = q
    ac_rfl
  rw [e]
  exact Nat.mul_div_cancel _ (two_pow_pos 1074)
theorem wh_lo {um t j v : Nat} (hv : um * 2 ^ t = v * 2 ^ 52) (ht : t + j = 1126) : v / 2 ^ 1074 = um / 2 ^ j := by
  have h1 : v / 2 ^ 1074 = v * 2 ^ 52 / (2 ^ 1074 * 2 ^ 52) := (Nat.mul_div_mul_right _ _ (two_pow_pos 52)).symm
  rw [h1, ← hv, pow_cat (a := 1074) (b := 52) (c := t + j) (by omega), Nat.pow_add, Nat.mul_comm um]
  exact Nat.mul_div_mul_left _ _ (two_pow_pos t)
theorem wh_big {um t v : Nat} (h1 : 4503599627370496 ≤ um) (hv : um * 2 ^ t = v * 2 ^ 52) (ht : 1138 ≤ t) : 18446744073709551616 ≤ v / 2 ^ 1074 := by
  rw [Nat.le_div_iff_mul_le (two_pow_pos 1074)]
  apply Nat.le_of_mul_le_mul_right (c := 2 ^ 52) _ (two_pow_pos 52)
  rw [← hv]
  have h2 := Nat.pow_le_pow_right (n := 2) (by omega) ht
  obtain ⟨Z, hZ⟩ : ∃ Z, Z = 2 ^ 1138 := ⟨_, rfl⟩
  rw [← hZ] at h2
  have h3 : 4503599627370496 * Z ≤ um * 2 ^ t := Nat.mul_le_mul h1 h2
  rw [hZ] at h3
  have e : 18446744073709551616 * 2 ^ 1074 * 2 ^ 52 = 4503599627370496 * 2 ^ 1138 := by
    rw [← pow_cat (a := 64) (b := 1074) (c := 1138) rfl]
    generalize 2 ^ 1074 = p
    rw [show (2 : Nat) ^ 52 = 4503599627370496 from rfl, show (2 : Nat) ^ 64 = 18446744073709551616 from rfl]
    omega
  rw [e]; exact h3
theorem wh_small {um t v : Nat} (h1 : um < 9007199254740992) (hv : um * 2 ^ t = v * 2 ^ 52) (ht : t ≤ 1137) : v / 2 ^ 1074 < 18446744073709551616 := by
  rw [Nat.div_lt_iff_lt_mul (two_pow_pos 1074)]
  apply Nat.lt_of_mul_lt_mul_right (a := 2 ^ 52)
  rw [← hv]
  have h2 := Nat.pow_le_pow_right (n := 2) (by omega) ht
  have hp := two_pow_pos 1137
  obtain ⟨Z, hZ⟩ : ∃ Z, Z = 2 ^ 1137 := ⟨_, rfl⟩
  rw [← hZ] at h2 hp
  have h3 : um * 2 ^ t ≤ um * Z := Nat.mul_le_mul_left _ h2
  have h4 : um * Z < 9007199254740992 * Z := Nat.mul_lt_mul_of_pos_right h1 hp
  rw [hZ] at h3 h4
  have e : 18446744073709551616 * 2 ^ 1074 * 2 ^ 52 = 9007199254740992 * 2 ^ 1137 := by
    rw [← pow_cat (a := 63) (b := 1074) (c := 1137) rfl]
    generalize 2 ^ 1074 = p
    rw [show (2 : Nat) ^ 52 = 4503599627370496 from rfl, show (2 : Nat) ^ 63 = 9223372036854775808 from rfl]
    omega
  rw [e]; omega
theorem wh_nought {um t v : Nat} (h1 : um < 9007199254740992) (hv : um * 2 ^ t = v * 2 ^ 52) (ht : t ≤ 1072) : v / 2 ^ 1074 = 0 := by
  apply Nat.div_eq_of_lt
  apply Nat.lt_of_mul_lt_mul_right (a := 2 ^ 52)
  rw [← hv]
  have h2 := Nat.pow_le_pow_right (n := 2) (by omega) ht
  have hp := two_pow_pos 1072
  obtain ⟨Z, hZ⟩ : ∃ Z, Z = 2 ^ 1072 := ⟨_, rfl⟩
  rw [← hZ] at h2 hp
  have h3 : um * 2 ^ t ≤ um * Z := Nat.mul_le_mul_left _ h2
  have h4 : um * Z < 9007199254740992 * Z := Nat.mul_lt_mul_of_pos_right h1 hp
  rw [hZ] at h3 h4
  have e : 2 ^ 1074 * 2 ^ 52 = 18014398509481984 * 2 ^ 1072 := by
    rw [← pow_cat (a := 2) (b := 1072) (c := 1074) rfl]
    generalize 2 ^ 1072 = p
    rw [show (2 : Nat) ^ 52 = 4503599627370496 from rfl, show (2 : Nat) ^ 2 = 4 from rfl]
    omega
  rw [e]; omega
end Go.Proofs.Ytignbdajgnnlpaa.SF
