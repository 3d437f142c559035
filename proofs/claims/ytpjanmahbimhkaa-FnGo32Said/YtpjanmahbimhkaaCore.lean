/-
  Plain mathematics, no program in sight: the numbers of a binary floating-point format in units of the smallest one, and what it means that a rung is the nearest one to an exact quotient A / B, ties to even.
-/
namespace Go.Proofs.Ytpjanmahbimhkaa.SF

/-- The size of the number on rung b (exponent and fraction field together), in units of the smallest number; F: the bits of the fraction. -/
def val (F b : Nat) : Nat := if b < 2 ^ F then b else (2 ^ F + b % 2 ^ F) * 2 ^ (b / 2 ^ F - 1)

theorem pow_succ2 (F : Nat) : 2 ^ (F + 1) = 2 * 2 ^ F := by rw [Nat.pow_succ]; omega

theorem two_pow_pos (F : Nat) : 0 < 2 ^ F := Nat.two_pow_pos F

theorem val_of (F k n : Nat) (h : k = 0 ∨ 2 ^ F ≤ n) (hn : n ≤ 2 ^ (F + 1)) : val F (k * 2 ^ F + n) = n * 2 ^ k := by
  have hp := two_pow_pos F
  rw [pow_succ2] at hn
  unfold val
  rcases Nat.lt_or_ge n (2 ^ F) with hlt | hge
  · have hk : k = 0 := by omega
    subst hk
    simp [hlt]
  · rw [if_neg (by omega)]
    rcases Nat.lt_or_ge n (2 * 2 ^ F) with h2 | h2
    · have e : k * 2 ^ F + n = (n - 2 ^ F) + 2 ^ F * (k + 1) := by
        rw [Nat.mul_add, Nat.mul_comm k]; omega
      rw [e, Nat.add_mul_mod_self_left, Nat.mod_eq_of_lt (by omega), Nat.add_mul_div_left _ _ hp, Nat.div_eq_of_lt (by omega)]
      rw [show 2 ^ F + (n - 2 ^ F) = n by omega, show 0 + (k + 1) - 1 = k by omega]
    · have hn2 : n = 2 * 2 ^ F := by omega
      have e : k * 2 ^ F + n = 0 + 2 ^ F * (k + 2) := by
        rw [Nat.mul_add, Nat.mul_comm k]; omega
      rw [e, Nat.add_mul_mod_self_left, Nat.zero_mod, Nat.add_mul_div_left _ _ hp, Nat.zero_div]
      rw [hn2, show 0 + (k + 2) - 1 = k + 1 by omega, Nat.pow_succ, Nat.add_zero]
      rw [Nat.mul_comm 2 (2 ^ F), Nat.mul_assoc, Nat.mul_comm 2 (2 ^ k)]

/-- Each rung is one of a binade. -/
theorem decomp (F b : Nat) : ∃ k n, b = k * 2 ^ F + n ∧ (k = 0 ∨ 2 ^ F ≤ n) ∧ n < 2 ^ (F + 1) := by
  have hp := two_pow_pos F
  rcases Nat.lt_or_ge b (2 ^ F) with h | h
  · exact ⟨0, b, by omega, .inl rfl, by rw [pow_succ2]; omega⟩
  · have hd : 1 ≤ b / 2 ^ F := (Nat.le_div_iff_mul_le hp).mpr (by omega)
    have hm := Nat.mod_lt b hp
    have he := Nat.div_add_mod b (2 ^ F)
    obtain ⟨d, hd'⟩ : ∃ d, b / 2 ^ F = d + 1 := ⟨b / 2 ^ F - 1, by omega⟩
    rw [hd', Nat.mul_add, Nat.mul_comm _ d] at he
    exact ⟨d, 2 ^ F + b % 2 ^ F, by omega, .inr (by omega), by rw [pow_succ2]; omega⟩

theorem val_succ_of (F k n : Nat) (h : k = 0 ∨ 2 ^ F ≤ n) (hn : n < 2 ^ (F + 1)) : val F (k * 2 ^ F + n + 1) = (n + 1) * 2 ^ k := by
  rw [Nat.add_assoc]
  exact val_of F k (n + 1) (by omega) (by omega)

theorem val_lt_succ (F b : Nat) : val F b < val F (b + 1) := by
  obtain ⟨k, n, rfl, h, hn⟩ := decomp F b
  rw [val_of F k n h (by omega), val_succ_of F k n h hn, Nat.add_mul]
  have := two_pow_pos k
  omega

theorem val_lt (F : Nat) {a b : Nat} (h : a < b) : val F a < val F b := by
  induction b with
  | zero => omega
  | succ b ih =>
    have := val_lt_succ F b
    rcases Nat.lt_or_ge a b with h1 | h1
    · have := ih h1; omega
    · have : a = b := by omega
      subst this; exact this

theorem val_le (F : Nat) {a b : Nat} (h : a ≤ b) : val F a ≤ val F b := by
  rcases Nat.lt_or_ge a b with h1 | h1
  · exact Nat.le_of_lt (val_lt F h1)
  · have : a = b := by omega
    subst this; exact Nat.le_refl _

theorem val_lt_iff (F : Nat) {a b : Nat} : val F a < val F b ↔ a < b := by
  constructor
  · intro h
    rcases Nat.lt_or_ge a b with h1 | h1
    · exact h1
    · have := val_le F h1; omega
  · exact val_lt F

theorem val_le_iff (F : Nat) {a b : Nat} : val F a ≤ val F b ↔ a ≤ b := by
  constructor
  · intro h
    rcases Nat.lt_or_ge b a with h1 | h1
    · have := val_lt F h1; omega
    · exact h1
  · exact val_le F

theorem val_inj (F : Nat) {a b : Nat} (h : val F a = val F b) : a = b := by
  have h1 := (val_le_iff F).mp (Nat.le_of_eq h)
  have h2 := (val_le_iff F).mp (Nat.le_of_eq h.symm)
  omega

theorem val_zero (F : Nat) : val F 0 = 0 := by
  have := two_pow_pos F
  simp [val, this]

theorem val_eq_zero (F : Nat) {b : Nat} : val F b = 0 ↔ b = 0 := by
  constructor
  · intro h; exact val_inj F (h.trans (val_zero F).symm)
  · rintro rfl; exact val_zero F

/-- Rung b is the nearest one to A / B (in units of the smallest number), of two the even one; exponents without an end. -/
def IsRnd (F A B b : Nat) : Prop :=
  (∀ c, b = c + 1 → (val F c + val F b) * B ≤ 2 * A ∧ ((val F c + val F b) * B = 2 * A → b % 2 = 0)) ∧
  (2 * A ≤ (val F b + val F (b + 1)) * B ∧ (2 * A = (val F b + val F (b + 1)) * B → b % 2 = 0))

theorem mid_lt (F : Nat) {a b : Nat} (h : a < b) : val F a + val F (a + 1) < val F b + val F (b + 1) := by
  have h1 := val_lt F h
  have h2 := val_lt F (show a + 1 < b + 1 by omega)
  omega

/-- Rounding keeps the order. -/
theorem IsRnd.mono {F A B A' B' b b' : Nat} (h : IsRnd F A B b) (h' : IsRnd F A' B' b') (hB : 0 < B) (hB' : 0 < B') (hle : A * B' ≤ A' * B) : b ≤ b' := by
  rcases Nat.lt_or_ge b' b with hlt | hge
  · exfalso
    obtain ⟨c, rfl⟩ : ∃ c, b = c + 1 := ⟨b - 1, by omega⟩
    obtain ⟨h1, h2⟩ := h.1 c rfl
    obtain ⟨g1, g2⟩ := h'.2
    -- mid c * B ≤ 2 A ; 2 A' ≤ mid b' * B' ; mid b' ≤ mid c
    have hm : val F b' + val F (b' + 1) ≤ val F c + val F (c + 1) := by
      rcases Nat.lt_or_ge b' c with hc | hc
      · exact Nat.le_of_lt (mid_lt F hc)
      · have : b' = c := by omega
        subst this; exact Nat.le_refl _
    have e1 : (val F c + val F (c + 1)) * B * B' ≤ 2 * A * B' := Nat.mul_le_mul_right _ h1
    have e2 : 2 * A * B' ≤ 2 * A' * B := by
      rw [Nat.mul_assoc, Nat.mul_assoc]; exact Nat.mul_le_mul_left _ hle
    have e3 : 2 * A' * B ≤ (val F b' + val F (b' + 1)) * B' * B := Nat.mul_le_mul_right _ g1
    have e4 : (val F b' + val F (b' + 1)) * B' * B ≤ (val F c + val F (c + 1)) * B' * B := Nat.mul_le_mul_right _ (Nat.mul_le_mul_right _ hm)
    have e5 : (val F c + val F (c + 1)) * B' * B = (val F c + val F (c + 1)) * B * B' := by
      rw [Nat.mul_assoc, Nat.mul_comm B' B, ← Nat.mul_assoc]
    have t1 : (val F c + val F (c + 1)) * B * B' = 2 * A * B' := by omega
    have t2 : 2 * A' * B = (val F b' + val F (b' + 1)) * B' * B := by omega
    have t3 : (val F b' + val F (b' + 1)) * B' * B = (val F c + val F (c + 1)) * B' * B := by omega
    have p1 := h2 (Nat.eq_of_mul_eq_mul_right hB' t1)
    have p2 := g2 (Nat.eq_of_mul_eq_mul_right hB t2)
    have t4 : val F b' + val F (b' + 1) = val F c + val F (c + 1) := Nat.eq_of_mul_eq_mul_right hB' (Nat.eq_of_mul_eq_mul_right hB t3)
    have hcb : c = b' := by
      rcases Nat.lt_trichotomy b' c with hc | hc | hc
      · have := mid_lt F hc; omega
      · exact hc.symm
      · omega
    omega
  · exact hge

theorem IsRnd.unique {F A B A' B' b b' : Nat} (h : IsRnd F A B b) (h' : IsRnd F A' B' b') (hB : 0 < B) (hB' : 0 < B') (he : A * B' = A' * B) : b = b' := by
  have h1 := h.mono h' hB hB' (Nat.le_of_eq he)
  have h2 := h'.mono h hB' hB (Nat.le_of_eq he.symm)
  omega

/-- A number of the format is its own nearest one. -/
theorem IsRnd.exact (F B b : Nat) (hB : 0 < B) : IsRnd F (val F b * B) B b := by
  refine ⟨?_, ?_⟩
  · rintro c rfl
    have h := val_lt_succ F c
    have h1 : (val F c + val F (c + 1)) * B < 2 * (val F (c + 1) * B) := by
      rw [← Nat.mul_assoc]; exact Nat.mul_lt_mul_of_pos_right (by omega) hB
    exact ⟨by omega, fun e => by omega⟩
  · have h := val_lt_succ F b
    have h1 : 2 * (val F b * B) < (val F b + val F (b + 1)) * B := by
      rw [← Nat.mul_assoc]; exact Nat.mul_lt_mul_of_pos_right (by omega) hB
    exact ⟨by omega, fun e => by omega⟩

/-- n is a whole number nearest to A / C, of two the even one. -/
def Near (n C A : Nat) : Prop :=
  2 * (n * C) ≤ 2 * A + C ∧ (2 * (n * C) = 2 * A + C → n % 2 = 0) ∧ 2 * A ≤ 2 * (n * C) + C ∧ (2 * A = 2 * (n * C) + C → n % 2 = 0)

theorem parity_rung (F k n : Nat) (hF : 1 ≤ F) : (k * 2 ^ F + n) % 2 = n % 2 := by
  obtain ⟨f, rfl⟩ : ∃ f, F = f + 1 := ⟨F - 1, by omega⟩
  rw [pow_succ2, Nat.mul_left_comm]
  omega

theorem rung_of_near {F k n A B : Nat} (hF : 1 ≤ F) (hB : 0 < B) (hn : n ≤ 2 ^ (F + 1)) (hr : Near n (2 ^ k * B) A)
    (hk : k = 0 ∨ 2 ^ F < n ∨ (n = 2 ^ F ∧ 2 ^ F * (2 ^ k * B) ≤ A)) : IsRnd F A B (k * 2 ^ F + n) := by
  have hpF := two_pow_pos F
  have hC : 0 < 2 ^ k * B := Nat.mul_pos (two_pow_pos k) hB
  have hkn : k = 0 ∨ 2 ^ F ≤ n := by omega
  have hv := val_of F k n hkn hn
  have hpar := parity_rung F k n hF
  obtain ⟨r1, r2, r3, r4⟩ := hr
  have hvC : val F (k * 2 ^ F + n) * B = n * (2 ^ k * B) := by rw [hv, Nat.mul_assoc]
  refine ⟨?_, ?_⟩
  · intro c hc
    by_cases hlow : k = 0 ∨ 2 ^ F < n
    · -- the rung below lies in the same binade
      have hn1 : 1 ≤ n ∨ (n = 0 ∧ k = 0) := by omega
      rcases hn1 with hn1 | ⟨hn0, hk0⟩
      · obtain ⟨m, rfl⟩ : ∃ m, n = m + 1 := ⟨n - 1, by omega⟩
        have hcm : c = k * 2 ^ F + m := by omega
        have hvc : val F c * B = m * (2 ^ k * B) := by
          rw [hcm, val_of F k m (by omega) (by omega), Nat.mul_assoc]
        have e : (val F c + val F (k * 2 ^ F + (m + 1))) * B = 2 * ((m + 1) * (2 ^ k * B)) - 2 ^ k * B := by
          rw [Nat.add_mul, hvC, hvc, Nat.add_mul]; omega
        have hge : 2 ^ k * B ≤ (m + 1) * (2 ^ k * B) := Nat.le_mul_of_pos_left _ (by omega)
        rw [e]
        exact ⟨by omega, fun h => by rw [hpar]; exact r2 (by omega)⟩
      · subst hn0; subst hk0; simp at hc
    · -- the head of a binade
      have hneq : n = 2 ^ F ∧ 2 ^ F * (2 ^ k * B) ≤ A := by omega
      obtain ⟨rfl, hA⟩ := hneq
      have hlt : val F c < val F (k * 2 ^ F + 2 ^ F) := by rw [hc]; exact val_lt_succ F c
      have hlt2 : val F c * B < val F (k * 2 ^ F + 2 ^ F) * B := Nat.mul_lt_mul_of_pos_right hlt hB
      have e : (val F c + val F (k * 2 ^ F + 2 ^ F)) * B = val F c * B + val F (k * 2 ^ F + 2 ^ F) * B := Nat.add_mul _ _ _
      rw [e]
      exact ⟨by omega, fun h => by omega⟩
  · rcases Nat.lt_or_ge n (2 ^ (F + 1)) with hlt | hge
    · have hs := val_succ_of F k n hkn hlt
      have hsC : val F (k * 2 ^ F + n + 1) * B = n * (2 ^ k * B) + 2 ^ k * B := by rw [hs, Nat.mul_assoc, Nat.add_mul, Nat.one_mul]
      have e : (val F (k * 2 ^ F + n) + val F (k * 2 ^ F + n + 1)) * B = 2 * (n * (2 ^ k * B)) + 2 ^ k * B := by
        rw [Nat.add_mul, hvC, hsC]; omega
      rw [e]
      exact ⟨r3, fun h => by rw [hpar]; exact r4 h⟩
    · have hn2 : n = 2 ^ (F + 1) := by omega
      have eb : k * 2 ^ F + n = (k + 1) * 2 ^ F + 2 ^ F := by rw [hn2, pow_succ2, Nat.add_mul]; omega
      have hs := val_succ_of F (k + 1) (2 ^ F) (.inr (Nat.le_refl _)) (by rw [pow_succ2]; omega)
      rw [← eb] at hs
      have hsC : val F (k * 2 ^ F + n + 1) * B = n * (2 ^ k * B) + 2 * (2 ^ k * B) := by
        rw [hs, hn2, pow_succ2 k, pow_succ2 F, Nat.add_mul, Nat.add_mul, Nat.one_mul, Nat.mul_assoc 2 (2 ^ k) B]
        congr 1
        rw [Nat.mul_assoc, Nat.mul_assoc 2, Nat.mul_assoc 2, ← Nat.mul_assoc (2 ^ F) 2, Nat.mul_comm (2 ^ F) 2, Nat.mul_assoc 2]
      have e : (val F (k * 2 ^ F + n) + val F (k * 2 ^ F + n + 1)) * B = 2 * (n * (2 ^ k * B)) + 2 * (2 ^ k * B) := by
        rw [Nat.add_mul, hvC, hsC]; omega
      rw [e]
      exact ⟨by omega, fun h => by omega⟩

end Go.Proofs.Ytpjanmahbimhkaa.SF
