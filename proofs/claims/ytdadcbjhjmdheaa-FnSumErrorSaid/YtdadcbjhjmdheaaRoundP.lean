/-
  Plain mathematics of the reference's rounding.
-/
import Derived.Test.YtdadcbjhjmdheaaFmtB
namespace Go.Proofs.Ytdadcbjhjmdheaa.SF
open Go.RowKit
set_option linter.unusedVariables false

/-- lg is the greatest k with 2 to the power of k not greater than num / den -/
def Lg (num den : Nat) (lg : Int) : Prop := den * 2 ^ lg.toNat ≤ num * 2 ^ (-lg).toNat ∧ num * 2 ^ (-lg).toNat < 2 * (den * 2 ^ lg.toNat)

theorem blen_pos {n : Nat} (h : 0 < n) : 1 ≤ blen n ∧ 2 ^ (blen n - 1) ≤ n ∧ n < 2 ^ blen n := by
  unfold blen
  rw [if_neg (by omega)]
  exact ⟨by omega, by simpa using log2_pow_le h, log2_pow_lt n⟩

theorem mul_pow_le {a b k : Nat} (h : 2 ^ a ≤ b) : 2 ^ (a + k) ≤ b * 2 ^ k := by rw [Nat.pow_add]; exact Nat.mul_le_mul_right _ h
theorem mul_pow_lt {a b k : Nat} (h : b < 2 ^ a) : b * 2 ^ k < 2 ^ (a + k) := by rw [Nat.pow_add]; exact Nat.mul_lt_mul_of_pos_right h (two_pow_pos k)

theorem Lg.ge_less {num den bn bd : Nat} {k : Nat} (hn : 0 < num) (hd : 0 < den) (h1 : blen num = bn) (h2 : blen den = bd) (hk : bn = bd + k) (h : num < den * 2 ^ k) : Lg num den ((k : Int) - 1) := by
  obtain ⟨a1, a2, a3⟩ := blen_pos hn
  obtain ⟨b1, b2, b3⟩ := blen_pos hd
  rw [h1] at a1 a2 a3
  rw [h2] at b1 b2 b3
  unfold Lg
  rcases Nat.eq_zero_or_pos k with h0 | h0
  · subst h0
    have e1 : ((0 : Nat) : Int) - 1 = -1 := by omega
    rw [e1, show (-1 : Int).toNat = 0 from rfl, show (-(-1 : Int)).toNat = 1 from rfl]
    have hb : 2 ^ bd = 2 * 2 ^ (bd - 1) := by rw [← pow_succ2]; congr 1; omega
    have hbb : bn = bd := by omega
    subst hbb
    simp at h
    simp
    omega
  · rw [show ((k : Int) - 1).toNat = k - 1 by omega, show (-((k : Int) - 1)).toNat = 0 by omega]
    have hb : 2 ^ k = 2 * 2 ^ (k - 1) := by rw [← pow_succ2]; congr 1; omega
    have h3 := mul_pow_lt (k := k - 1) b3
    rw [show bd + (k - 1) = bn - 1 by omega] at h3
    rw [hb, Nat.mul_left_comm] at h
    simp
    omega

theorem Lg.ge_else {num den bn bd : Nat} {k : Nat} (hn : 0 < num) (hd : 0 < den) (h1 : blen num = bn) (h2 : blen den = bd) (hk : bn = bd + k) (h : ¬ num < den * 2 ^ k) : Lg num den (k : Int) := by
  obtain ⟨a1, a2, a3⟩ := blen_pos hn
  obtain ⟨b1, b2, b3⟩ := blen_pos hd
  rw [h1] at a1 a2 a3
  rw [h2] at b1 b2 b3
  unfold Lg
  rw [show ((k : Int)).toNat = k by omega, show (-(k : Int)).toNat = 0 by omega]
  have h3 := mul_pow_le (k := k) b2
  have hb : 2 ^ bn = 2 * 2 ^ (bd - 1 + k) := by rw [← pow_succ2]; congr 1; omega
  simp
  omega

theorem Lg.lt_less {num den bn bd : Nat} {k : Nat} (hn : 0 < num) (hd : 0 < den) (h1 : blen num = bn) (h2 : blen den = bd) (hk : bn + k = bd) (h : num * 2 ^ k < den) : Lg num den (-(k : Int) - 1) := by
  obtain ⟨a1, a2, a3⟩ := blen_pos hn
  obtain ⟨b1, b2, b3⟩ := blen_pos hd
  rw [h1] at a1 a2 a3
  rw [h2] at b1 b2 b3
  unfold Lg
  rw [show (-(k : Int) - 1).toNat = 0 by omega, show (-(-(k : Int) - 1)).toNat = k + 1 by omega]
  have h3 := mul_pow_le (k := k + 1) a2
  rw [show bn - 1 + (k + 1) = bd by omega] at h3
  have e : num * 2 ^ (k + 1) = 2 * (num * 2 ^ k) := by rw [pow_succ2, Nat.mul_left_comm]
  rw [e] at h3 ⊢
  simp
  omega

theorem Lg.lt_else {num den bn bd : Nat} {k : Nat} (hn : 0 < num) (hd : 0 < den) (h1 : blen num = bn) (h2 : blen den = bd) (hk : bn + k = bd) (h : ¬ num * 2 ^ k < den) : Lg num den (-(k : Int)) := by
  obtain ⟨a1, a2, a3⟩ := blen_pos hn
  obtain ⟨b1, b2, b3⟩ := blen_pos hd
  rw [h1] at a1 a2 a3
  rw [h2] at b1 b2 b3
  unfold Lg
  rw [show (-(k : Int)).toNat = 0 by omega, show (-(-(k : Int))).toNat = k by omega]
  have h3 := mul_pow_lt (k := k) a3
  rw [hk] at h3
  have hb : 2 ^ bd = 2 * 2 ^ (bd - 1) := by rw [← pow_succ2]; congr 1; omega
  simp
  omega

theorem Near.scale {n C A Y X : Nat} (h : Near n Y X) (hY : 0 < Y) (hC : 0 < C) (hXY : X * C = A * Y) : Near n C A := by
  obtain ⟨h1, h2, h3, h4⟩ := h
  have e1 : 2 * (n * Y) * C = 2 * (n * C) * Y := by
    rw [Nat.mul_assoc 2, Nat.mul_right_comm n Y C, ← Nat.mul_assoc 2]
  have e2 : (2 * X + Y) * C = (2 * A + C) * Y := by
    rw [Nat.add_mul, Nat.add_mul, Nat.mul_assoc, hXY, Nat.mul_assoc, Nat.mul_comm Y C]
  have e3 : 2 * X * C = 2 * A * Y := by rw [Nat.mul_assoc, hXY, Nat.mul_assoc]
  have e4 : (2 * (n * Y) + Y) * C = (2 * (n * C) + C) * Y := by
    rw [Nat.add_mul, Nat.add_mul, e1, Nat.mul_comm Y C]
  refine ⟨?_, ?_, ?_, ?_⟩
  · have := Nat.mul_le_mul_right C h1
    rw [e1, e2] at this
    exact Nat.le_of_mul_le_mul_right this hY
  · intro he
    apply h2
    have : 2 * (n * Y) * C = (2 * X + Y) * C := by rw [e1, e2, he]
    exact Nat.eq_of_mul_eq_mul_right hC this
  · have := Nat.mul_le_mul_right C h3
    rw [e3, e4] at this
    exact Nat.le_of_mul_le_mul_right this hY
  · intro he
    apply h4
    have : 2 * X * C = (2 * (n * Y) + Y) * C := by rw [e3, e4, he]
    exact Nat.eq_of_mul_eq_mul_right hC this

theorem near_div {X Y n r n' : Nat} (hY : 0 < Y) (hX : X = n * Y + r) (hr : r < Y) (hn : ((Y < 2 * r ∨ (2 * r = Y ∧ n % 2 = 1)) ∧ n' = n + 1) ∨ (¬ (Y < 2 * r ∨ (2 * r = Y ∧ n % 2 = 1)) ∧ n' = n)) : Near n' Y X := by
  unfold Near
  rcases hn with ⟨h, rfl⟩ | ⟨h, rfl⟩
  · rw [Nat.add_mul, Nat.one_mul]
    exact ⟨by omega, fun e => by omega, by omega, fun e => by omega⟩
  · exact ⟨by omega, fun e => by omega, by omega, fun e => by omega⟩

theorem pow_exp_le {u v : Int} {F : Nat} (h : u + v ≤ F) : 2 ^ u.toNat * 2 ^ v.toNat ≤ 2 ^ F * 2 ^ (-u).toNat * 2 ^ (-v).toNat := by
  rw [← Nat.pow_add, ← Nat.pow_add, ← Nat.pow_add]
  exact Nat.pow_le_pow_right (by omega) (by omega)
theorem pow_exp_eq {u v : Int} {F : Nat} (h : u + v = F) : 2 ^ u.toNat * 2 ^ v.toNat = 2 ^ F * 2 ^ (-u).toNat * 2 ^ (-v).toNat := by
  rw [← Nat.pow_add, ← Nat.pow_add, ← Nat.pow_add]
  congr 1; omega

theorem Lg.upper {num den F : Nat} {lg s : Int} (h : Lg num den lg) (hs : lg + s ≤ F) : num * 2 ^ s.toNat < 2 ^ (F + 1) * (den * 2 ^ (-s).toNat) := by
  have h1 := pow_exp_le hs
  have h2 : num * 2 ^ (-lg).toNat * 2 ^ s.toNat < 2 * (den * 2 ^ lg.toNat) * 2 ^ s.toNat := Nat.mul_lt_mul_of_pos_right h.2 (two_pow_pos _)
  have h3 : 2 * (den * 2 ^ lg.toNat) * 2 ^ s.toNat = 2 * den * (2 ^ lg.toNat * 2 ^ s.toNat) := by
    rw [← Nat.mul_assoc, Nat.mul_assoc]
  have h4 : 2 * den * (2 ^ lg.toNat * 2 ^ s.toNat) ≤ 2 * den * (2 ^ F * 2 ^ (-lg).toNat * 2 ^ (-s).toNat) := Nat.mul_le_mul_left _ h1
  have h5 : 2 * den * (2 ^ F * 2 ^ (-lg).toNat * 2 ^ (-s).toNat) = 2 ^ (F + 1) * (den * 2 ^ (-s).toNat) * 2 ^ (-lg).toNat := by
    rw [pow_succ2]
    generalize 2 ^ F = a
    generalize 2 ^ (-lg).toNat = b
    generalize 2 ^ (-s).toNat = c
    ac_rfl
  have h6 : num * 2 ^ (-lg).toNat * 2 ^ s.toNat = num * 2 ^ s.toNat * 2 ^ (-lg).toNat := Nat.mul_right_comm _ _ _
  have h7 : num * 2 ^ s.toNat * 2 ^ (-lg).toNat < 2 ^ (F + 1) * (den * 2 ^ (-s).toNat) * 2 ^ (-lg).toNat := by omega
  exact Nat.lt_of_mul_lt_mul_right h7

theorem Lg.lower {num den F : Nat} {lg s : Int} (h : Lg num den lg) (hs : lg + s = F) : 2 ^ F * (den * 2 ^ (-s).toNat) ≤ num * 2 ^ s.toNat := by
  have h1 := pow_exp_eq hs
  have h2 : den * 2 ^ lg.toNat * 2 ^ s.toNat ≤ num * 2 ^ (-lg).toNat * 2 ^ s.toNat := Nat.mul_le_mul_right _ h.1
  have h5 : den * 2 ^ lg.toNat * 2 ^ s.toNat = 2 ^ F * (den * 2 ^ (-s).toNat) * 2 ^ (-lg).toNat := by
    rw [Nat.mul_assoc, h1]
    generalize 2 ^ F = a
    generalize 2 ^ (-lg).toNat = b
    generalize 2 ^ (-s).toNat = c
    ac_rfl
  have h6 : num * 2 ^ (-lg).toNat * 2 ^ s.toNat = num * 2 ^ s.toNat * 2 ^ (-lg).toNat := Nat.mul_right_comm _ _ _
  have h7 : 2 ^ F * (den * 2 ^ (-s).toNat) * 2 ^ (-lg).toNat ≤ num * 2 ^ s.toNat * 2 ^ (-lg).toNat := by omega
  exact Nat.le_of_mul_le_mul_right h7 (two_pow_pos _)

/-- the number that is rounded, in units of the smallest one: num / den times 2 to the power of E -/
def numA (num : Nat) (E : Int) : Nat := num * 2 ^ E.toNat
def numB (den : Nat) (E : Int) : Nat := den * 2 ^ (-E).toNat

theorem scale_eq (num den k : Nat) (E : Int) : num * 2 ^ (E - k).toNat * (2 ^ k * numB den E) = numA num E * (den * 2 ^ (-(E - k)).toNat) := by
  unfold numA numB
  have e : 2 ^ (E - k).toNat * 2 ^ k * 2 ^ (-E).toNat = 2 ^ E.toNat * 2 ^ (-(E - k)).toNat := by
    rw [← Nat.pow_add, ← Nat.pow_add, ← Nat.pow_add]
    congr 1
    omega
  generalize 2 ^ (E - k).toNat = a at *
  generalize 2 ^ k = b at *
  generalize 2 ^ (-E).toNat = c at *
  generalize 2 ^ E.toNat = d at *
  generalize 2 ^ (-(E - k)).toNat = f at *
  have : num * a * (b * (den * c)) = num * den * (a * b * c) := by ac_rfl
  rw [this, e]
  ac_rfl

/-- What the rounding comes to: k, and the nearest whole number n'. -/
theorem round_rung {F num den k n r n' : Nat} {lg E : Int} (hF : 1 ≤ F) (hn0 : 0 < num) (hd0 : 0 < den) (hlg : Lg num den lg) (hk : (k : Int) = max (lg + E - F) 0)
    (hX : num * 2 ^ (E - k).toNat = n * (den * 2 ^ (-(E - k)).toNat) + r) (hr : r < den * 2 ^ (-(E - k)).toNat)
    (hn' : ((den * 2 ^ (-(E - k)).toNat < 2 * r ∨ (2 * r = den * 2 ^ (-(E - k)).toNat ∧ n % 2 = 1)) ∧ n' = n + 1) ∨ (¬ (den * 2 ^ (-(E - k)).toNat < 2 * r ∨ (2 * r = den * 2 ^ (-(E - k)).toNat ∧ n % 2 = 1)) ∧ n' = n)) :
    IsRnd F (numA num E) (numB den E) (k * 2 ^ F + n') ∧ n' ≤ 2 ^ (F + 1) ∧ (k = 0 ∨ 2 ^ F ≤ n') := by
  have hY : 0 < den * 2 ^ (-(E - k)).toNat := Nat.mul_pos hd0 (two_pow_pos _)
  have hB : 0 < numB den E := Nat.mul_pos hd0 (two_pow_pos _)
  have hC : 0 < 2 ^ k * numB den E := Nat.mul_pos (two_pow_pos _) hB
  have hup := hlg.upper (F := F) (s := E - k) (by omega)
  have hnear := near_div hY hX hr hn'
  have hsc := scale_eq num den k E
  have hlow : k = 0 ∨ 2 ^ F * (den * 2 ^ (-(E - k)).toNat) ≤ num * 2 ^ (E - k).toNat := by
    rcases Nat.eq_zero_or_pos k with h0 | h0
    · exact .inl h0
    · exact .inr (hlg.lower (by omega))
  generalize den * 2 ^ (-(E - k)).toNat = Y at *
  generalize num * 2 ^ (E - k).toNat = X at *
  have hnear2 := hnear.scale hY hC hsc
  have hnlt : n < 2 ^ (F + 1) := by
    have h1 : n * Y < 2 ^ (F + 1) * Y := by omega
    exact Nat.lt_of_mul_lt_mul_right h1
  have hn2 : n' ≤ 2 ^ (F + 1) := by omega
  have hge : k = 0 ∨ 2 ^ F ≤ n := by
    rcases hlow with h | h
    · exact .inl h
    · refine .inr ?_
      have h1 : 2 ^ F * Y < (n + 1) * Y := by rw [Nat.add_mul, Nat.one_mul]; omega
      have := Nat.lt_of_mul_lt_mul_right h1
      omega
  refine ⟨rung_of_near hF hB hn2 hnear2 ?_, hn2, by omega⟩
  rcases hge with hg | hg
  · exact .inl hg
  rcases hlow with h | h
  · exact .inl h
  · rcases Nat.lt_or_ge (2 ^ F) n' with h1 | h1
    · exact .inr (.inl h1)
    · refine .inr (.inr ⟨by omega, ?_⟩)
      have h2 := Nat.mul_le_mul_right (2 ^ k * numB den E) h
      rw [hsc] at h2
      have h3 : 2 ^ F * Y * (2 ^ k * numB den E) = 2 ^ F * (2 ^ k * numB den E) * Y := Nat.mul_right_comm _ _ _
      rw [h3] at h2
      exact Nat.le_of_mul_le_mul_right h2 hY

end Go.Proofs.Ytdadcbjhjmdheaa.SF
