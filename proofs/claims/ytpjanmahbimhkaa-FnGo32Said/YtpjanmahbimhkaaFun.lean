/-
  Plain definitions: what the operations of a binary format return, by exact numbers.
-/
import Derived.Test.YtpjanmahbimhkaaDefs
import Derived.Test.YtpjanmahbimhkaaPack
namespace Go.Proofs.Ytpjanmahbimhkaa.SF
open Go.RowKit

/-- the rung nearest to A / B (in units of the smallest number), of two the even one -/
noncomputable def rn (F A B : Nat) : Nat := Classical.epsilon (IsRnd F A B)
theorem IsRnd.rn {F A B b : Nat} (h : IsRnd F A B b) (hB : 0 < B) : rn F A B = b :=
  (Classical.epsilon_spec (p := IsRnd F A B) ⟨b, h⟩).unique h hB hB rfl

/-- equal quotients have the same rung -/
theorem IsRnd.rn_eq {F A B A' B' b : Nat} (h : IsRnd F A' B' b) (hB : 0 < B) (hB' : 0 < B') (he : A * B' = A' * B) : IsRnd F A B b := by
  have key : ∀ M : Nat, (M * B' ≤ 2 * A' ↔ M * B ≤ 2 * A) ∧ (2 * A' ≤ M * B' ↔ 2 * A ≤ M * B) := by
    intro M
    have e1 : M * B' * B = M * B * B' := by rw [Nat.mul_assoc, Nat.mul_comm B', ← Nat.mul_assoc]
    have e2 : 2 * A' * B = 2 * A * B' := by rw [Nat.mul_assoc, ← he, Nat.mul_assoc]
    constructor
    · constructor
      · intro h
        have := Nat.mul_le_mul_right B h
        rw [e1, e2] at this
        exact Nat.le_of_mul_le_mul_right this hB'
      · intro h
        have := Nat.mul_le_mul_right B' h
        rw [← e1, ← e2] at this
        exact Nat.le_of_mul_le_mul_right this hB
    · constructor
      · intro h
        have := Nat.mul_le_mul_right B h
        rw [e1, e2] at this
        exact Nat.le_of_mul_le_mul_right this hB'
      · intro h
        have := Nat.mul_le_mul_right B' h
        rw [← e1, ← e2] at this
        exact Nat.le_of_mul_le_mul_right this hB
  obtain ⟨h1, h2, h3⟩ := h
  refine ⟨fun c hc => ?_, ?_, ?_⟩
  · obtain ⟨g1, g2⟩ := h1 c hc
    have k := key (val F c + val F b)
    exact ⟨k.1.mp g1, fun e => g2 (Nat.le_antisymm g1 (k.2.mpr (Nat.le_of_eq e.symm)))⟩
  · exact (key (val F b + val F (b + 1))).2.mp h2
  · intro e
    have k := key (val F b + val F (b + 1))
    exact h3 (Nat.le_antisymm h2 (k.1.mpr (Nat.le_of_eq e.symm)))

/-- each quotient has a nearest rung -/
theorem rnd_ex {F : Nat} (hF : 1 ≤ F) (A B : Nat) (hB : 0 < B) : ∃ b, IsRnd F A B b := by
  -- the binade: k with 2^F * 2^k * B ≤ A < 2^(F+1) * 2^k * B, or k = 0
  obtain ⟨k, hlo, hhi⟩ : ∃ k, (k = 0 ∨ 2 ^ F * (2 ^ k * B) ≤ A) ∧ A < 2 ^ (F + 1) * (2 ^ k * B) := by
    have hex : ∃ n, A < 2 ^ (F + 1) * (2 ^ n * B) := by
      refine ⟨A, ?_⟩
      have h1 : A < 2 ^ A := Nat.lt_two_pow_self
      have h2 : 2 ^ A ≤ 2 ^ A * B := Nat.le_mul_of_pos_right _ hB
      have h3 : 2 ^ A * B ≤ 2 ^ (F + 1) * (2 ^ A * B) := Nat.le_mul_of_pos_left _ (two_pow_pos _)
      omega
    have hmin : ∀ n, A < 2 ^ (F + 1) * (2 ^ n * B) → ∃ k, (k = 0 ∨ 2 ^ F * (2 ^ k * B) ≤ A) ∧ A < 2 ^ (F + 1) * (2 ^ k * B) := by
      intro n
      induction n with
      | zero => intro h; exact ⟨0, .inl rfl, h⟩
      | succ n ih =>
        intro h
        rcases Nat.lt_or_ge A (2 ^ (F + 1) * (2 ^ n * B)) with g | g
        · exact ih g
        · refine ⟨n + 1, .inr ?_, h⟩
          rw [pow_succ2] at g
          have e : 2 ^ F * (2 ^ (n + 1) * B) = 2 * 2 ^ F * (2 ^ n * B) := by rw [pow_succ2 n]; ac_rfl
          omega
    exact hex.elim hmin
  have hC : 0 < 2 ^ k * B := Nat.mul_pos (two_pow_pos k) hB
  have hdm := Nat.div_add_mod A (2 ^ k * B)
  have hml := Nat.mod_lt A hC
  generalize hq : A / (2 ^ k * B) = q at hdm
  generalize hr : A % (2 ^ k * B) = r at hdm hml
  generalize hCC : 2 ^ k * B = C at *
  have hq2 : q < 2 ^ (F + 1) := by
    rw [← hq]; exact (Nat.div_lt_iff_lt_mul hC).mpr hhi
  have hq1 : k = 0 ∨ 2 ^ F ≤ q := by
    rcases hlo with h | h
    · exact .inl h
    · right; rw [← hq]; exact (Nat.le_div_iff_mul_le hC).mpr h
  rw [Nat.mul_comm] at hdm
  by_cases hup : C < 2 * r ∨ (2 * r = C ∧ q % 2 = 1)
  · refine ⟨k * 2 ^ F + (q + 1), rung_of_near hF hB (by omega) ?_ (by omega)⟩
    rw [hCC]
    have e : (q + 1) * C = q * C + C := by rw [Nat.add_mul, Nat.one_mul]
    refine ⟨by omega, fun h => by omega, by omega, fun h => by omega⟩
  · refine ⟨k * 2 ^ F + q, rung_of_near hF hB (by omega) ?_ ?_⟩
    · rw [hCC]
      exact ⟨by omega, fun h => by omega, by omega, fun h => by omega⟩
    · rw [hCC]
      rcases hq1 with h | h
      · exact .inl h
      · rcases Nat.lt_or_ge (2 ^ F) q with g | g
        · exact .inr (.inl g)
        · refine .inr (.inr ⟨by omega, ?_⟩)
          have : q = 2 ^ F := by omega
          rw [← this]; omega

theorem rn_spec {F : Nat} (hF : 1 ≤ F) (A B : Nat) (hB : 0 < B) : IsRnd F A B (rn F A B) := by
  obtain ⟨b, hb⟩ := rnd_ex hF A B hB
  rw [hb.rn hB]; exact hb

/-- the size of finite bits with their sign, in units of the smallest number -/
def sv64 (x : Nat) : Int := if neg64 x then -(val64 x : Int) else (val64 x : Int)
/-- the bits of the nearest float, an infinity if that is too large -/
noncomputable def rd64 (neg : Bool) (A B : Nat) : Nat := sgn64 neg (min (rn 52 A B) 9218868437227405312)
theorem rd_of64 {A B b : Nat} (neg : Bool) (h : IsRnd 52 A B b) (hB : 0 < B) : rd64 neg A B = sgn64 neg (min b 9218868437227405312) := by
  unfold rd64; rw [h.rn hB]
theorem rd_eq64 {A B A' B' b : Nat} (neg : Bool) (h : IsRnd 52 A' B' b) (hB : 0 < B) (hB' : 0 < B') (he : A * B' = A' * B) : rd64 neg A B = sgn64 neg (min b 9218868437227405312) :=
  rd_of64 neg (h.rn_eq hB hB' he) hB
/-- the quiet NaN that is returned -/
def nq64 : Nat := 9221120237041090560
noncomputable def add64 (x y : Nat) : Nat :=
  if isNaN64 x || isNaN64 y || (isInf64 x && isInf64 y && decide (x ≠ y)) then 9221120237041090560 else if isInf64 x then x else if isInf64 y then y
  else if sv64 x + sv64 y = 0 then (if neg64 x && neg64 y then 9223372036854775808 else 0) else rd64 (decide (sv64 x + sv64 y < 0)) (sv64 x + sv64 y).natAbs 1
noncomputable def mul64 (x y : Nat) : Nat :=
  if isNaN64 x || isNaN64 y || (isInf64 x && isZero64 y) || (isZero64 x && isInf64 y) then 9221120237041090560 else if isInf64 x || isInf64 y then sgn64 (neg64 x != neg64 y) 9218868437227405312
  else rd64 (neg64 x != neg64 y) (val64 x * val64 y) (2 ^ 1074)
noncomputable def div64 (x y : Nat) : Nat :=
  if isNaN64 x || isNaN64 y || (isInf64 x && isInf64 y) || (isZero64 x && isZero64 y) then 9221120237041090560 else if isInf64 x || isZero64 y then sgn64 (neg64 x != neg64 y) 9218868437227405312
  else if isInf64 y then sgn64 (neg64 x != neg64 y) 0 else rd64 (neg64 x != neg64 y) (val64 x * 2 ^ 1074) (val64 y)
noncomputable def fromI64 (n : Int) : Nat := rd64 (decide (n < 0)) (n.natAbs * 2 ^ 1074) 1
/-- the size of finite bits with their sign, in units of the smallest number -/
def sv32 (x : Nat) : Int := if neg32 x then -(val32 x : Int) else (val32 x : Int)
/-- the bits of the nearest float, an infinity if that is too large -/
noncomputable def rd32 (neg : Bool) (A B : Nat) : Nat := sgn32 neg (min (rn 23 A B) 2139095040)
theorem rd_of32 {A B b : Nat} (neg : Bool) (h : IsRnd 23 A B b) (hB : 0 < B) : rd32 neg A B = sgn32 neg (min b 2139095040) := by
  unfold rd32; rw [h.rn hB]
theorem rd_eq32 {A B A' B' b : Nat} (neg : Bool) (h : IsRnd 23 A' B' b) (hB : 0 < B) (hB' : 0 < B') (he : A * B' = A' * B) : rd32 neg A B = sgn32 neg (min b 2139095040) :=
  rd_of32 neg (h.rn_eq hB hB' he) hB
/-- the quiet NaN that is returned -/
def nq32 : Nat := 2143289344
noncomputable def add32 (x y : Nat) : Nat :=
  if isNaN32 x || isNaN32 y || (isInf32 x && isInf32 y && decide (x ≠ y)) then 2143289344 else if isInf32 x then x else if isInf32 y then y
  else if sv32 x + sv32 y = 0 then (if neg32 x && neg32 y then 2147483648 else 0) else rd32 (decide (sv32 x + sv32 y < 0)) (sv32 x + sv32 y).natAbs 1
noncomputable def mul32 (x y : Nat) : Nat :=
  if isNaN32 x || isNaN32 y || (isInf32 x && isZero32 y) || (isZero32 x && isInf32 y) then 2143289344 else if isInf32 x || isInf32 y then sgn32 (neg32 x != neg32 y) 2139095040
  else rd32 (neg32 x != neg32 y) (val32 x * val32 y) (2 ^ 149)
noncomputable def div32 (x y : Nat) : Nat :=
  if isNaN32 x || isNaN32 y || (isInf32 x && isInf32 y) || (isZero32 x && isZero32 y) then 2143289344 else if isInf32 x || isZero32 y then sgn32 (neg32 x != neg32 y) 2139095040
  else if isInf32 y then sgn32 (neg32 x != neg32 y) 0 else rd32 (neg32 x != neg32 y) (val32 x * 2 ^ 149) (val32 y)
noncomputable def fromI32 (n : Int) : Nat := rd32 (decide (n < 0)) (n.natAbs * 2 ^ 149) 1
noncomputable def narrow (x : Nat) : Nat := if isNaN64 x then 2143289344 else if isInf64 x then sgn32 (neg64 x) 2139095040 else rd32 (neg64 x) (val64 x) (2 ^ 925)
noncomputable def widen (x : Nat) : Nat := if isNaN32 x then 9221120237041090560 else if isInf32 x then sgn64 (neg32 x) 9218868437227405312 else rd64 (neg32 x) (val32 x * 2 ^ 925) 1

end Go.Proofs.Ytpjanmahbimhkaa.SF
