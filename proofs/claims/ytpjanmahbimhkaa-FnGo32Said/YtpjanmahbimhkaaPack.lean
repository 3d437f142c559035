/-
  Plain mathematics: a mantissa with a unit C and a mark whether something below it was cut off, shifted and rounded.
-/
import Derived.Test.YtpjanmahbimhkaaCore
namespace Go.Proofs.Ytpjanmahbimhkaa.SF

/-- A is m units C, and a little more (less than a unit) where s holds. -/
def Rep (m C : Nat) (s : Prop) (A : Nat) : Prop := (¬ s → m * C = A) ∧ (s → m * C < A ∧ A < m * C + C)

theorem Rep.le {m C A : Nat} {s : Prop} (h : Rep m C s A) : m * C ≤ A := by
  by_cases hs : s
  · exact Nat.le_of_lt (h.2 hs).1
  · exact Nat.le_of_eq (h.1 hs)

theorem Rep.lt {m C A : Nat} {s : Prop} (h : Rep m C s A) (hC : 0 < C) : A < m * C + C := by
  by_cases hs : s
  · exact (h.2 hs).2
  · have := h.1 hs; omega

theorem Rep.congr {m C A : Nat} {s s' : Prop} (h : Rep m C s A) (e : s ↔ s') : Rep m C s' A :=
  ⟨fun hs => h.1 (fun h' => hs (e.mp h')), fun hs => h.2 (e.mpr hs)⟩

theorem Rep.up {m t B A : Nat} {s : Prop} (h : Rep m (2 ^ (t + 1) * B) s A) (hs : ¬ s) : Rep (m * 2) (2 ^ t * B) s A := by
  refine ⟨fun _ => ?_, fun h' => absurd h' hs⟩
  rw [← h.1 hs, pow_succ2, Nat.mul_assoc m 2, ← Nat.mul_assoc 2]

theorem Rep.down {m t B A : Nat} {s : Prop} (hB : 0 < B) (h : Rep m (2 ^ t * B) s A) : Rep (m / 2) (2 ^ (t + 1) * B) (s ∨ m % 2 = 1) A := by
  have hC : 0 < 2 ^ t * B := Nat.mul_pos (two_pow_pos t) hB
  have e : 2 ^ (t + 1) * B = 2 * (2 ^ t * B) := by rw [pow_succ2, Nat.mul_assoc]
  have hd := Nat.div_add_mod m 2
  rw [e]
  generalize 2 ^ t * B = C at *
  obtain ⟨q, hq⟩ : ∃ q, m / 2 = q := ⟨_, rfl⟩
  rw [hq] at hd ⊢
  have e2 : q * (2 * C) = 2 * (q * C) := by rw [Nat.mul_left_comm]
  unfold Rep
  rw [e2]
  rcases Nat.mod_two_eq_zero_or_one m with h0 | h1
  · have em : m * C = 2 * (q * C) := by
      rw [show m = 2 * q by omega, Nat.mul_assoc]
    refine ⟨fun hs => ?_, fun hs => ?_⟩
    · rw [← em]; exact h.1 (fun h' => hs (.inl h'))
    · have := h.2 (by rcases hs with hs | hs; exact hs; omega)
      omega
  · have em : m * C = 2 * (q * C) + C := by
      rw [show m = 2 * q + 1 by omega, Nat.add_mul, Nat.mul_assoc, Nat.one_mul]
    refine ⟨fun hs => absurd (.inr h1) hs, fun _ => ?_⟩
    have l1 := h.le
    have l2 := h.lt hC
    omega

/-- One bit more than is kept is cut off, to the nearest, ties to even. -/
theorem Rep.half {m C A n : Nat} {s : Prop} (hC : 0 < C) (h : Rep m C s A) (hn : (m % 2 = 1 ∧ (s ∨ m / 2 % 2 = 1) ∧ n = m / 2 + 1) ∨ (¬ (m % 2 = 1 ∧ (s ∨ m / 2 % 2 = 1)) ∧ n = m / 2)) : Near n (2 * C) A := by
  have hd := Nat.div_add_mod m 2
  obtain ⟨q, hq⟩ : ∃ q, m / 2 = q := ⟨_, rfl⟩
  rw [hq] at hd hn
  have l1 := h.le
  have l2 := h.lt hC
  have e2 : ∀ q, q * (2 * C) = 2 * (q * C) := fun q => by rw [Nat.mul_left_comm]
  unfold Near
  rw [e2]
  rcases Nat.mod_two_eq_zero_or_one m with h0 | h1
  · have em : m * C = 2 * (q * C) := by rw [show m = 2 * q by omega, Nat.mul_assoc]
    have hnq : n = q := by omega
    subst hnq
    refine ⟨by omega, fun e => by omega, by omega, fun e => by omega⟩
  · have em : m * C = 2 * (q * C) + C := by rw [show m = 2 * q + 1 by omega, Nat.add_mul, Nat.mul_assoc, Nat.one_mul]
    by_cases hup : s ∨ q % 2 = 1
    · have hnq : n = q + 1 := by
        rcases hn with hn | hn
        · omega
        · exact absurd ⟨h1, hup⟩ hn.1
      subst hnq
      have e3 : (q + 1) * C = q * C + C := by rw [Nat.add_mul, Nat.one_mul]
      rw [e3]
      refine ⟨by omega, fun e => ?_, by omega, fun e => by omega⟩
      rcases hup with hs | hs
      · have := (h.2 hs).1; omega
      · omega
    · have hnq : n = q := by
        rcases hn with hn | hn
        · exact absurd hn.2.1 hup
        · exact hn.2
      subst hnq
      have hs : ¬ s := fun h' => hup (.inl h')
      have := h.1 hs
      refine ⟨by omega, fun e => by omega, by omega, fun e => ?_⟩
      have : ¬ n % 2 = 1 := fun h' => hup (.inr h')
      omega

theorem Near.exact {n C A : Nat} (hC : 0 < C) (h : n * C = A) : Near n C A := by
  unfold Near; refine ⟨by omega, fun e => by omega, by omega, fun e => by omega⟩

/-- What the packing comes to ahead of its looks at the exponent: n units of 2^t, the nearest. -/
structure Packed (F n t A B : Nat) : Prop where
  near : Near n (2 ^ t * B) A
  lo : 2 ^ F ≤ n
  hi : n ≤ 2 ^ (F + 1)
  least : 2 ^ F * (2 ^ t * B) ≤ A
  most : A < 2 ^ (F + 1) * (2 ^ t * B)

theorem pow_split (t K k B : Nat) (h : t = K + k) : 2 ^ t * B = 2 ^ k * (B * 2 ^ K) := by
  rw [h, Nat.pow_add, Nat.mul_comm B, ← Nat.mul_assoc, Nat.mul_comm (2 ^ k)]

theorem Packed.rung {F n t A B K k : Nat} (h : Packed F n t A B) (hF : 1 ≤ F) (hB : 0 < B) (ht : t = K + k) : IsRnd F A (B * 2 ^ K) (k * 2 ^ F + n) := by
  have hn := h.near
  have hl := h.least
  rw [pow_split t K k B ht] at hn hl
  refine rung_of_near hF (Nat.mul_pos hB (two_pow_pos K)) h.hi hn ?_
  have := h.lo
  rcases Nat.lt_or_ge (2 ^ F) n with h1 | h1
  · exact .inr (.inl h1)
  · exact .inr (.inr ⟨by omega, hl⟩)

/-- Too small: nought. -/
theorem rnd_zero {F A B : Nat} (h : 2 * A ≤ B) : IsRnd F A B 0 := by
  refine ⟨fun c hc => by omega, ?_⟩
  have h1 : val F 1 = 1 := by
    rcases Nat.eq_zero_or_pos F with h0 | h0
    · subst h0; simp [val]
    · have : 1 < 2 ^ F := Nat.one_lt_two_pow (by omega)
      simp [val, this]
  rw [val_zero, h1]
  exact ⟨by omega, fun _ => rfl⟩

theorem Packed.zero {F n t A B K : Nat} (h : Packed F n t A B) (ht : t + F + 2 ≤ K) : IsRnd F A (B * 2 ^ K) 0 := by
  apply rnd_zero
  have h1 := h.most
  have e : 2 * (2 ^ (F + 1) * (2 ^ t * B)) = 2 ^ (t + F + 2) * B := by
    rw [show t + F + 2 = (F + 1) + 1 + t by omega, Nat.pow_add 2 (F + 1 + 1) t, pow_succ2 (F + 1), Nat.mul_assoc, Nat.mul_assoc]
  have h2 : 2 ^ (t + F + 2) * B ≤ 2 ^ K * B := Nat.mul_le_mul_right _ (Nat.pow_le_pow_right (by omega) ht)
  rw [Nat.mul_comm B]
  omega

/-- The first rounding: a mantissa of F + 2 bits. -/
theorem Packed.of_half {F m t A B n : Nat} {s : Prop} (hB : 0 < B) (h : Rep m (2 ^ t * B) s A) (lo : 2 * 2 ^ F ≤ m) (hi : m < 2 * 2 ^ (F + 1))
    (hn : (m % 2 = 1 ∧ (s ∨ m / 2 % 2 = 1) ∧ n = m / 2 + 1) ∨ (¬ (m % 2 = 1 ∧ (s ∨ m / 2 % 2 = 1)) ∧ n = m / 2)) : Packed F n (t + 1) A B := by
  have hC : 0 < 2 ^ t * B := Nat.mul_pos (two_pow_pos t) hB
  have e : 2 ^ (t + 1) * B = 2 * (2 ^ t * B) := by rw [pow_succ2, Nat.mul_assoc]
  have hF := pow_succ2 F
  refine ⟨by rw [e]; exact h.half hC hn, by omega, by omega, ?_, ?_⟩
  · rw [e]
    refine Nat.le_trans ?_ h.le
    rw [Nat.mul_left_comm, ← Nat.mul_assoc]
    exact Nat.mul_le_mul_right _ lo
  · rw [e]
    refine Nat.lt_of_lt_of_le (h.lt hC) ?_
    rw [Nat.mul_left_comm (2 ^ (F + 1)), ← Nat.mul_assoc 2 (2 ^ (F + 1)), show m * (2 ^ t * B) + 2 ^ t * B = (m + 1) * (2 ^ t * B) by rw [Nat.add_mul, Nat.one_mul]]
    exact Nat.mul_le_mul_right _ hi

theorem Packed.of_exact {F m t A B : Nat} {s : Prop} (hB : 0 < B) (h : Rep m (2 ^ t * B) s A) (hs : ¬ s) (lo : 2 ^ F ≤ m) (hi : m < 2 ^ (F + 1)) : Packed F m t A B := by
  have hC : 0 < 2 ^ t * B := Nat.mul_pos (two_pow_pos t) hB
  have he := h.1 hs
  refine ⟨Near.exact hC he, lo, by omega, ?_, ?_⟩
  · rw [← he]; exact Nat.mul_le_mul_right _ lo
  · rw [← he]; exact Nat.mul_lt_mul_of_pos_right hi hC

/-- The second way: at the least exponent. -/
theorem rung_least {F m A B n K : Nat} {s : Prop} (hF : 1 ≤ F) (hB : 0 < B) (hK : 1 ≤ K) (h : Rep m (2 ^ (K - 1) * B) s A) (hi : m < 2 ^ (F + 1))
    (hn : (m % 2 = 1 ∧ (s ∨ m / 2 % 2 = 1) ∧ n = m / 2 + 1) ∨ (¬ (m % 2 = 1 ∧ (s ∨ m / 2 % 2 = 1)) ∧ n = m / 2)) : IsRnd F A (B * 2 ^ K) n := by
  have hC : 0 < 2 ^ (K - 1) * B := Nat.mul_pos (two_pow_pos _) hB
  have e : 2 * (2 ^ (K - 1) * B) = 2 ^ 0 * (B * 2 ^ K) := by
    rw [← Nat.mul_assoc, ← pow_succ2, show K - 1 + 1 = K by omega, Nat.pow_zero, Nat.one_mul, Nat.mul_comm]
  have hh := h.half hC hn
  rw [e] at hh
  have hp := pow_succ2 F
  have := rung_of_near (k := 0) hF (Nat.mul_pos hB (two_pow_pos K)) (by omega) hh (.inl rfl)
  simpa using this

end Go.Proofs.Ytpjanmahbimhkaa.SF
