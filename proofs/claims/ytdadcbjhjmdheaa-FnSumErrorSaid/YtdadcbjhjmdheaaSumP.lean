/-
  Plain mathematics: differences and sums that are exact; what a sum loses by rounding.
-/
import Derived.Test.YtdadcbjhjmdheaaAlgB
namespace Go.Proofs.Ytdadcbjhjmdheaa.SF
open Go.RowKit
set_option linter.unusedVariables false

/-- the rounded number is the nearest one -/
theorem near_le {F A b : Nat} (h : IsRnd F A 1 b) (c : Nat) : ((val F b : Int) - A).natAbs ≤ ((val F c : Int) - A).natAbs := by
  obtain ⟨h1, h2, _⟩ := h
  rcases Nat.lt_trichotomy c b with g | g | g
  · obtain ⟨d, rfl⟩ : ∃ d, b = d + 1 := ⟨b - 1, by omega⟩
    have := (h1 d rfl).1
    have := val_le F (show c ≤ d by omega)
    have := val_lt F (show d < d + 1 by omega)
    omega
  · subst g; exact Nat.le_refl _
  · have := val_le F (show b + 1 ≤ c by omega)
    have := val_lt F (show b < b + 1 by omega)
    omega
theorem rep_of {c : Int} (e : Nat) (hc : c.natAbs ≤ 9007199254740992) : ∃ b, val 52 b = (c * ((2 ^ e : Nat) : Int)).natAbs := by
  obtain ⟨b, hb⟩ := rep_val 52 e c.natAbs (Nat.le_trans hc (by decide))
  exact ⟨b, by rw [hb, Int.natAbs_mul, Int.natAbs_natCast]⟩
theorem abs_le_of_mul {c d : Int} {p : Nat} (hp : 0 < p) (h : (c * (p : Int)).natAbs ≤ (d * (p : Int)).natAbs) : c.natAbs ≤ d.natAbs := by
  rw [Int.natAbs_mul, Int.natAbs_mul, Int.natAbs_natCast] at h
  exact Nat.le_of_mul_le_mul_right h hp
theorem coef0 {a cx cy q m : Int} (ha : a = cx) (hm : m = (cx + cy + 1) / 2) (h0 : 0 ≤ a + cy) (m3 : (2 * q - (a + cy)).natAbs ≤ (2 * ((m.natAbs : Nat) : Int) - (a + cy)).natAbs) (hcy : cy.natAbs < 9007199254740992) : (2 * q - a).natAbs ≤ 9007199254740992 := by omega
theorem coef1 {a a' cy q : Int} (ha : a = 2 * a') (m1 : (2 * q - (a + cy)).natAbs ≤ (-cy).natAbs) (hcy : cy.natAbs < 9007199254740992) : (q - a').natAbs ≤ 9007199254740992 := by omega
theorem coef2 {a cy q : Int} (m1 : (2 * q - (a + cy)).natAbs ≤ (-cy).natAbs) : (a + cy - 2 * q).natAbs ≤ cy.natAbs := by omega
theorem mid_bd {cx cy : Int} (hcx : cx.natAbs < 9007199254740992) (hcy : cy.natAbs < 9007199254740992) : ((cx + cy + 1) / 2).natAbs ≤ 9007199254740992 := by omega
theorem coef_pos {a : Int} {P : Nat} (hp : 0 < P) (h : 0 ≤ a * (P : Int)) : 0 ≤ a := by
  rcases Int.lt_or_le a 0 with g | g
  · have := Int.mul_neg_of_neg_of_pos g (show (0 : Int) < P by omega)
    omega
  · exact g
theorem even_part (cx : Int) (d : Nat) : (d = 0 → cx * ((2 ^ d : Nat) : Int) = cx) ∧ (d ≠ 0 → ∃ a', cx * ((2 ^ d : Nat) : Int) = 2 * a') := by
  refine ⟨fun h => ?_, fun h => ?_⟩
  · rw [h, Nat.pow_zero]; exact Int.mul_one cx
  · obtain ⟨d', rfl⟩ : ∃ d', d = d' + 1 := ⟨d - 1, by omega⟩
    refine ⟨cx * ((2 ^ d' : Nat) : Int), ?_⟩
    rw [pow_succ2, Int.natCast_mul, Int.mul_left_comm]; rfl
/-- the rung is a multiple of two units -/
theorem rung_two {b ey : Nat} (h : 9007199254740992 * 2 ^ ey ≤ val 52 b) : ∃ q : Int, (val 52 b : Int) = 2 * q * ((2 ^ ey : Nat) : Int) := by
  obtain ⟨k, n, hkn, hk, hn⟩ := decomp 52 b
  have hv : val 52 b = n * 2 ^ k := by rw [hkn]; exact val_of 52 k n hk (by omega)
  rw [hv] at h ⊢
  have hp := two_pow_pos ey
  have hkey : ey + 1 ≤ k := by
    rcases Nat.lt_or_ge ey k with g | g
    · exact g
    · exfalso
      have hpk := Nat.pow_le_pow_right (n := 2) (by omega) g
      have g1 : n * 2 ^ k ≤ n * 2 ^ ey := Nat.mul_le_mul_left n hpk
      have g2 : n * 2 ^ ey < 9007199254740992 * 2 ^ ey := Nat.mul_lt_mul_of_pos_right hn hp
      omega
  obtain ⟨j, rfl⟩ : ∃ j, k = ey + 1 + j := ⟨k - (ey + 1), by omega⟩
  refine ⟨((n * 2 ^ j : Nat) : Int), ?_⟩
  have e : n * 2 ^ (ey + 1 + j) = 2 * (n * 2 ^ j) * 2 ^ ey := by
    rw [Nat.pow_add, Nat.pow_add]
    generalize 2 ^ j = J
    generalize 2 ^ ey = P
    show n * (P * 2 * J) = 2 * (n * J) * P
    ac_rfl
  rw [e, Int.natCast_mul, Int.natCast_mul]; rfl
theorem cast_abs_mul (m : Int) (P : Nat) (c : Int) : (((m * (2 * (P : Int))).natAbs : Nat) : Int) - c * (P : Int) = (2 * ((m.natAbs : Nat) : Int) - c) * (P : Int) := by
  rw [Int.natAbs_mul, Int.natAbs_mul, Int.natAbs_natCast, Int.sub_mul, Int.natCast_mul, Int.natCast_mul]
  have : ((Int.natAbs 2 : Nat) : Int) = 2 := rfl
  rw [this, Int.mul_left_comm, Int.mul_assoc]
theorem ge_of_near {S T : Int} {L : Nat} (hS : 0 ≤ S) (hT : (L : Int) ≤ T) (h : (S - T).natAbs ≤ ((L : Int) - T).natAbs) : (L : Int) ≤ S := by omega
theorem mul_ge {c : Int} {P : Nat} (h : 9007199254740992 < c) : ((9007199254740992 * P : Nat) : Int) ≤ c * (P : Int) := by
  rw [Int.natCast_mul]
  exact Int.mul_le_mul_of_nonneg_right (show ((9007199254740992 : Nat) : Int) ≤ c by omega) (by omega)
theorem fts_core {X Y : Int} {cx cy : Int} {ex ey b : Nat} (hX : X = cx * ((2 ^ ex : Nat) : Int)) (hY : Y = cy * ((2 ^ ey : Nat) : Int)) (hcx : cx.natAbs < 9007199254740992) (hcy : cy.natAbs < 9007199254740992) (hle : ey ≤ ex) (h0 : 0 ≤ X) (habs : Y.natAbs ≤ X.natAbs) (hb : IsRnd 52 (X + Y).natAbs 1 b) :
    (∃ z, val 52 z = ((val 52 b : Int) - X).natAbs) ∧ (∃ l, val 52 l = (X + Y - val 52 b).natAbs) ∧ (X + Y - val 52 b).natAbs ≤ Y.natAbs := by
  have hT0 : 0 ≤ X + Y := by omega
  have hT : (((X + Y).natAbs : Nat) : Int) = X + Y := by omega
  obtain ⟨d, rfl⟩ : ∃ d, ex = ey + d := ⟨ex - ey, by omega⟩
  have hp := two_pow_pos ey
  have hXa : X = cx * ((2 ^ d : Nat) : Int) * ((2 ^ ey : Nat) : Int) := by
    rw [hX, Nat.pow_add, Nat.mul_comm (2 ^ ey), Int.natCast_mul, Int.mul_assoc]
  obtain ⟨c1, hc1⟩ := rep_of (c := cx) (ey + d) (Nat.le_of_lt hcx)
  rw [← hX] at hc1
  have n1 := near_le hb c1
  rw [hT, hc1, show (X.natAbs : Int) = X by omega] at n1
  have had := even_part cx d
  obtain ⟨a, ha⟩ : ∃ a : Int, a = cx * ((2 ^ d : Nat) : Int) := ⟨_, rfl⟩
  rw [← ha] at hXa had
  have eT : X + Y = (a + cy) * ((2 ^ ey : Nat) : Int) := by rw [Int.add_mul, ← hXa, ← hY]
  by_cases hc : (a + cy).natAbs ≤ 9007199254740992
  · obtain ⟨t, ht⟩ := rep_of ey hc
    rw [← eT] at ht
    have n2 := near_le hb t
    rw [ht, hT] at n2
    have hS : (val 52 b : Int) = X + Y := by clear hc1 n1 hc ht hb hXa eT hX hY; omega
    obtain ⟨z, hz⟩ := rep_of (c := cy) ey (Nat.le_of_lt hcy)
    rw [← hY] at hz
    rw [hS]
    refine ⟨⟨z, by rw [hz]; congr 1; omega⟩, ⟨0, by rw [val_zero]; omega⟩, by omega⟩
  · have hcpos : 0 ≤ a + cy := coef_pos hp (by rw [← eT]; exact hT0)
    obtain ⟨t, ht⟩ := rep_of (c := 9007199254740992) ey (by decide)
    have n2 := near_le hb t
    have ht2 : val 52 t = 9007199254740992 * 2 ^ ey := by rw [ht, Int.natAbs_mul, Int.natAbs_natCast]; rfl
    rw [hT, ht2] at n2
    have hbig : 9007199254740992 < a + cy := by clear n1 n2 hc1 hb hXa eT hX hY ht ht2 had ha hT; omega
    have hge := ge_of_near (by omega) (by rw [eT]; exact mul_ge hbig) n2
    obtain ⟨q, hS⟩ := rung_two (b := b) (ey := ey) (by omega)
    obtain ⟨m, hm⟩ : ∃ m : Int, m = (cx + cy + 1) / 2 := ⟨_, rfl⟩
    obtain ⟨t3, ht3⟩ := rep_of (c := m) (ey + 1) (by rw [hm]; exact mid_bd hcx hcy)
    have n3 := near_le hb t3
    have eP : ((2 ^ (ey + 1) : Nat) : Int) = 2 * ((2 ^ ey : Nat) : Int) := by rw [pow_succ2, Int.natCast_mul]; rfl
    rw [hT, ht3, eP, eT, cast_abs_mul, hS, ← Int.sub_mul] at n3
    have m3 := abs_le_of_mul hp n3
    have e1 : X - (X + Y) = -cy * ((2 ^ ey : Nat) : Int) := by rw [Int.neg_mul, ← hY]; omega
    rw [e1, eT, hS, ← Int.sub_mul] at n1
    have m1 := abs_le_of_mul hp n1
    have eL : X + Y - (val 52 b : Int) = (a + cy - 2 * q) * ((2 ^ ey : Nat) : Int) := by rw [hS, eT, Int.sub_mul]
    have eZ : (val 52 b : Int) - X = (2 * q - a) * ((2 ^ ey : Nat) : Int) := by rw [hS, hXa, Int.sub_mul]
    refine ⟨?_, ?_, ?_⟩
    · rw [eZ]
      by_cases hd : d = 0
      · exact rep_of ey (coef0 (had.1 hd) hm hcpos m3 hcy)
      · obtain ⟨a', ha'⟩ := had.2 hd
        have e : (2 * q - a) * ((2 ^ ey : Nat) : Int) = (q - a') * ((2 ^ (ey + 1) : Nat) : Int) := by
          rw [eP, ha', ← Int.mul_sub, Int.mul_comm 2 (q - a'), Int.mul_assoc]
        rw [e]
        exact rep_of (ey + 1) (coef1 ha' m1 hcy)
    · rw [eL]
      exact rep_of ey (Nat.le_trans (coef2 m1) (Nat.le_of_lt hcy))
    · rw [eL, hY, Int.natAbs_mul, Int.natAbs_mul]
      exact Nat.mul_le_mul_right _ (coef2 m1)

theorem sv_form64 (x : Nat) : ∃ c : Int, sv64 x = c * ((2 ^ se64 x : Nat) : Int) ∧ c.natAbs < 9007199254740992 := by
  refine ⟨sk (neg64 x) (sm64 x), ?_, ?_⟩
  · rw [sv_sk64, val_sm64]
    cases neg64 x
    · simp only [sk, Bool.false_eq_true, if_false]; exact Int.natCast_mul _ _
    · simp only [sk, if_true, Int.neg_mul]; rw [Int.natCast_mul]
  · have := sm_lt64 x
    unfold sk; split <;> omega
theorem se_mono64 {x y : Nat} (h : mag64 y ≤ mag64 x) : se64 y ≤ se64 x := by unfold se64 fe64; omega
theorem sv_abs64 (x : Nat) : (sv64 x).natAbs = val64 x := by rw [sv_sk64]; unfold sk; cases neg64 x <;> simp
theorem sv_abs_le64 {x y : Nat} : (sv64 y).natAbs ≤ (sv64 x).natAbs ↔ mag64 y ≤ mag64 x := by
  rw [sv_abs64, sv_abs64]; exact val_le_iff 52
/-- a sum that is a float's size is exact -/
theorem addf_exact {x y b : Nat} (h : val 52 b = (sv64 x + sv64 y).natAbs) (hb : b < 9218868437227405312) : sv64 (addf64 x y) = sv64 x + sv64 y ∧ fin64 (addf64 x y) = true ∧ mag64 (addf64 x y) = b := by
  have hm := mag_addf64 x y
  rw [← h, rn_val, Nat.min_eq_left (by omega)] at hm
  refine ⟨?_, fin_iff64.mpr (by omega), hm⟩
  rw [sv_sk64 (addf64 x y)]
  unfold val64
  rw [hm, h]
  by_cases h0 : sv64 x + sv64 y = 0
  · rw [h0]; unfold sk; split <;> simp
  · rw [neg_addf64 h0]
    unfold sk
    split
    · rename_i hd; have := of_decide_eq_true hd; omega
    · rename_i hd; have := of_decide_eq_false (Bool.not_eq_true _ ▸ hd); omega
theorem addf_near {x y : Nat} (hf : fin64 (addf64 x y) = true) : ∃ b, IsRnd 52 (sv64 x + sv64 y).natAbs 1 b ∧ mag64 (addf64 x y) = b ∧ ((0 ≤ sv64 x + sv64 y ∧ sv64 (addf64 x y) = val 52 b) ∨ (sv64 x + sv64 y ≤ 0 ∧ sv64 (addf64 x y) = -(val 52 b : Int))) := by
  have hm := mag_addf64 x y
  have hlt := fin_iff64.mp hf
  have hr := rn_spec (F := 52) (by omega) (sv64 x + sv64 y).natAbs 1 (by omega)
  generalize rn 52 (sv64 x + sv64 y).natAbs 1 = b at *
  have hmb : mag64 (addf64 x y) = b := by omega
  refine ⟨b, hr, hmb, ?_⟩
  rw [sv_sk64 (addf64 x y)]
  unfold val64
  rw [hmb]
  by_cases h0 : sv64 x + sv64 y = 0
  · have := near_le hr 0
    rw [h0, val_zero] at this
    have hz : val 52 b = 0 := by simp at this; omega
    left
    refine ⟨by omega, ?_⟩
    rw [hz]; unfold sk; split <;> simp
  · rw [neg_addf64 h0]
    unfold sk
    split
    · rename_i hd; have := of_decide_eq_true hd; exact .inr ⟨by omega, rfl⟩
    · rename_i hd; have := of_decide_eq_false (Bool.not_eq_true _ ▸ hd); exact .inl ⟨by omega, rfl⟩

/-- what a sum loses by rounding -/
theorem sum_error {x y : Nat} (fx : fin64 x = true) (fy : fin64 y = true) (fs : fin64 (add64 x y) = true) (hm : mag64 y ≤ mag64 x) :
    fin64 (add64 y (flip64 (add64 (add64 x y) (flip64 x)))) = true ∧ add64 (add64 x y) (add64 y (flip64 (add64 (add64 x y) (flip64 x)))) = add64 x y ∧
    sv64 x + sv64 y = sv64 (add64 x y) + sv64 (add64 y (flip64 (add64 (add64 x y) (flip64 x)))) := by
  have es := add_ff64 fx fy
  rw [es] at fs ⊢
  obtain ⟨b, hb, hbm, hS⟩ := addf_near fs
  obtain ⟨cx, hX, hcx⟩ := sv_form64 x
  obtain ⟨cy, hY, hcy⟩ := sv_form64 y
  have hle := se_mono64 hm
  have habs := sv_abs_le64.mpr hm
  have hlx := fin_iff64.mp fx
  have hly := fin_iff64.mp fy
  have hls := fin_iff64.mp fs
  have core : (∃ z, val 52 z = (sv64 (addf64 x y) - sv64 x).natAbs) ∧ (∃ l, val 52 l = (sv64 x + sv64 y - sv64 (addf64 x y)).natAbs) ∧ (sv64 x + sv64 y - sv64 (addf64 x y)).natAbs ≤ (sv64 y).natAbs ∧ (sv64 (addf64 x y) - sv64 x).natAbs ≤ max (sv64 (addf64 x y)).natAbs (sv64 x).natAbs := by
    rcases Int.le_total 0 (sv64 x) with h0 | h0
    · have hc := fts_core hX hY hcx hcy hle h0 habs hb
      have e : sv64 (addf64 x y) = val 52 b := by
        rcases hS with ⟨_, e⟩ | ⟨g, e⟩
        · exact e
        · have : sv64 x + sv64 y = 0 := by omega
          have hz := near_le hb 0
          rw [this, val_zero] at hz
          simp at hz
          omega
      rw [e]
      exact ⟨hc.1, hc.2.1, hc.2.2, by omega⟩
    · have hb' : IsRnd 52 (-sv64 x + -sv64 y).natAbs 1 b := by
        rw [show (-sv64 x + -sv64 y).natAbs = (sv64 x + sv64 y).natAbs by omega]; exact hb
      have hc := fts_core (X := -sv64 x) (Y := -sv64 y) (cx := -cx) (cy := -cy) (by rw [Int.neg_mul, ← hX]) (by rw [Int.neg_mul, ← hY]) (by omega) (by omega) hle (by omega) (by omega) hb'
      have e : sv64 (addf64 x y) = -(val 52 b : Int) := by
        rcases hS with ⟨g, e⟩ | ⟨_, e⟩
        · have : sv64 x + sv64 y = 0 := by omega
          have hz := near_le hb 0
          rw [this, val_zero] at hz
          simp at hz
          omega
        · exact e
      rw [e]
      obtain ⟨⟨z, hz⟩, ⟨l, hl⟩, h3⟩ := hc
      exact ⟨⟨z, by rw [hz]; omega⟩, ⟨l, by rw [hl]; omega⟩, by omega, by omega⟩
  obtain ⟨⟨z, hz⟩, ⟨l, hl⟩, h3, h4⟩ := core
  have fxf : fin64 (flip64 x) = true := by rw [fin_flip64]; exact fx
  rw [add_ff64 fs fxf]
  have hz' : val 52 z = (sv64 (addf64 x y) + sv64 (flip64 x)).natAbs := by rw [hz, sv_flip64]; rfl
  have hzl : z < 9218868437227405312 := by
    rw [← hz, sv_abs64, sv_abs64] at h4
    rcases Nat.le_total (val64 (addf64 x y)) (val64 x) with g | g
    · rw [Nat.max_eq_right g] at h4
      have := (val_le_iff 52).mp h4
      omega
    · rw [Nat.max_eq_left g] at h4
      have := (val_le_iff 52).mp h4
      omega
  obtain ⟨vz, fz, mz⟩ := addf_exact hz' hzl
  rw [sv_flip64] at vz
  have fzf : fin64 (flip64 (addf64 (addf64 x y) (flip64 x))) = true := by rw [fin_flip64]; exact fz
  rw [add_ff64 fy fzf]
  have hl' : val 52 l = (sv64 y + sv64 (flip64 (addf64 (addf64 x y) (flip64 x)))).natAbs := by
    rw [hl, sv_flip64, vz]; congr 1; omega
  have hll : l < 9218868437227405312 := by
    rw [← hl, sv_abs64] at h3
    have := (val_le_iff 52).mp h3
    omega
  obtain ⟨vl, fl, ml⟩ := addf_exact hl' hll
  rw [sv_flip64, vz] at vl
  refine ⟨fl, ?_, by omega⟩
  rw [add_ff64 fs fl]
  by_cases h0 : sv64 x + sv64 y = 0
  · -- zeros
    have hs0 : addf64 x y = if neg64 x && neg64 y then 9223372036854775808 else 0 := by unfold addf64; rw [if_pos h0]
    have hsv : sv64 (addf64 x y) = 0 := by
      rw [h0] at h3 hS
      have hz := near_le hb 0
      rw [h0, val_zero] at hz
      simp at hz
      omega
    have hsm := sv_zero_iff64.mp hsv
    have hlm : mag64 (addf64 y (flip64 (addf64 (addf64 x y) (flip64 x)))) = 0 := sv_zero_iff64.mp (by omega)
    rw [addf_zz64 hsm hlm]
    cases hn : neg64 x && neg64 y
    · rw [hn] at hs0
      simp only [Bool.false_eq_true, if_false] at hs0
      rw [hs0]
      rfl
    · rw [hn] at hs0
      simp only [if_true] at hs0
      rw [Bool.and_eq_true] at hn
      have hx0 : sv64 x = 0 := by
        have a := sv_sk64 x
        have b' := sv_sk64 y
        rw [hn.1] at a
        rw [hn.2] at b'
        unfold sk at a b'
        simp only [if_true] at a b'
        omega
      have hxm := sv_zero_iff64.mp hx0
      have hfm : mag64 (flip64 x) = 0 := by rw [mag_flip64]; exact hxm
      have hz0 : addf64 (addf64 x y) (flip64 x) = 0 := by
        rw [addf_zz64 hsm hfm, neg_flip64, hn.1, Bool.not_true, Bool.and_false]; rfl
      have hym : mag64 y = 0 := sv_zero_iff64.mp (by omega)
      have hf0 : flip64 0 = 9223372036854775808 := by decide
      have hl0 : addf64 y (flip64 (addf64 (addf64 x y) (flip64 x))) = 9223372036854775808 := by
        rw [hz0, hf0, addf_zz64 hym (by decide), hn.2]; decide
      rw [hl0, hs0]
      decide
  · have e : sv64 (addf64 x y) + sv64 (addf64 y (flip64 (addf64 (addf64 x y) (flip64 x)))) = sv64 x + sv64 y := by omega
    generalize addf64 y (flip64 (addf64 (addf64 x y) (flip64 x))) = lo at *
    have e1 : addf64 (addf64 x y) lo = rd64 (decide (sv64 x + sv64 y < 0)) (sv64 x + sv64 y).natAbs 1 := by
      generalize addf64 x y = s at *
      unfold addf64
      rw [e, if_neg h0]
    rw [e1]
    unfold addf64
    rw [if_neg h0]

/-- Of two floats that are no more than twice each other: the difference is exact. -/
theorem near_exact {x y : Nat} (hx : x < 18446744073709551616) (nx : neg64 x = false) (ny : neg64 y = false) (fx : fin64 x = true) (fy : fin64 y = true) (h1 : val64 x ≤ 2 * val64 y) (h2 : val64 y ≤ 2 * val64 x) :
    add64 (add64 x (flip64 y)) y = x := by
  have fyf : fin64 (flip64 y) = true := by rw [fin_flip64]; exact fy
  have hlx := fin_iff64.mp fx
  have hly := fin_iff64.mp fy
  have sx : sv64 x = val64 x := by rw [sv_sk64, nx]; rfl
  have sy : sv64 y = val64 y := by rw [sv_sk64, ny]; rfl
  have rep : ∃ b, val 52 b = (sv64 x + sv64 (flip64 y)).natAbs := by
    rw [sv_flip64]
    obtain ⟨cx, hX, hcx⟩ := sv_form64 x
    obtain ⟨cy, hY, hcy⟩ := sv_form64 y
    have main : ∀ {u v : Nat} {c d : Int}, sv64 u = c * ((2 ^ se64 u : Nat) : Int) → sv64 v = d * ((2 ^ se64 v : Nat) : Int) → d.natAbs < 9007199254740992 → mag64 v ≤ mag64 u → (sv64 u - sv64 v).natAbs ≤ (sv64 v).natAbs → ∃ b, val 52 b = (sv64 u - sv64 v).natAbs := by
      intro u v c d hu hv hd hm hle
      obtain ⟨k, hk⟩ : ∃ k, se64 u = se64 v + k := ⟨se64 u - se64 v, by have := se_mono64 hm; omega⟩
      have e : sv64 u - sv64 v = (c * ((2 ^ k : Nat) : Int) - d) * ((2 ^ se64 v : Nat) : Int) := by
        rw [Int.sub_mul, ← hv, hu, hk, Nat.pow_add, Nat.mul_comm (2 ^ se64 v), Int.natCast_mul, Int.mul_assoc]
      rw [e] at hle ⊢
      rw [hv] at hle
      have := abs_le_of_mul (two_pow_pos _) hle
      exact rep_of _ (by omega)
    rcases Nat.le_total (mag64 y) (mag64 x) with g | g
    · have hvl := (val_le_iff 52).mpr g
      obtain ⟨b, hb⟩ := main hX hY hcy g (by rw [sx, sy]; unfold val64 at *; omega)
      exact ⟨b, by rw [hb]; congr 1⟩
    · have hvl := (val_le_iff 52).mpr g
      obtain ⟨b, hb⟩ := main hY hX hcx g (by rw [sx, sy]; unfold val64 at *; omega)
      exact ⟨b, by rw [hb]; omega⟩
  obtain ⟨b, hb⟩ := rep
  have hbl : b < 9218868437227405312 := by
    rw [sv_flip64, sx, sy] at hb
    rcases Nat.le_total (val64 y) (val64 x) with g | g
    · have : val 52 b ≤ val 52 (mag64 x) := by show val 52 b ≤ val64 x; omega
      have := (val_le_iff 52).mp this
      omega
    · have : val 52 b ≤ val 52 (mag64 y) := by show val 52 b ≤ val64 y; omega
      have := (val_le_iff 52).mp this
      omega
  obtain ⟨vd, fd, md⟩ := addf_exact hb hbl
  rw [add_ff64 fx fyf]
  rw [add_ff64 fd fy]
  rw [sv_flip64] at vd
  have e : sv64 (addf64 x (flip64 y)) + sv64 y = sv64 x := by omega
  rcases Nat.eq_zero_or_pos (mag64 x) with h0 | h0
  · -- both are zeros
    have hv0 : val64 x = 0 := by unfold val64; rw [h0, val_zero]
    have hy0 : mag64 y = 0 := by
      have : val 52 (mag64 y) = 0 := by show val64 y = 0; omega
      exact (val_eq_zero 52).mp this
    have hd0 : mag64 (addf64 x (flip64 y)) = 0 := sv_zero_iff64.mp (by omega)
    rw [addf_zz64 hd0 hy0, ny, Bool.and_false]
    have := sgn_mag64 hx
    rw [nx, h0] at this
    exact this
  · have hv : 0 < val64 x := val_pos64 h0
    rw [addf_of64 (b := mag64 x) (by rw [e, sx]; rfl) (by omega) (by omega), e, sx, decide_eq_false (by omega)]
    have := sgn_mag64 hx
    rw [nx] at this
    exact this
end Go.Proofs.Ytdadcbjhjmdheaa.SF
