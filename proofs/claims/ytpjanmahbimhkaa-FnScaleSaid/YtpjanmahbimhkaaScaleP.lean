/-
  Plain mathematics: floats times powers of 2.
-/
import Derived.Test.YtpjanmahbimhkaaIntP
namespace Go.Proofs.Ytpjanmahbimhkaa.SF
open Go.RowKit
set_option linter.unusedVariables false

theorem pw_mag {E : Nat} (h1 : 1 ≤ E) (h2 : E < 2047) : mag64 (E * 4503599627370496) = E * 4503599627370496 ∧ neg64 (E * 4503599627370496) = false ∧ fin64 (E * 4503599627370496) = true ∧ isZero64 (E * 4503599627370496) = false := by
  have hm : mag64 (E * 4503599627370496) = E * 4503599627370496 := Nat.mod_eq_of_lt (by omega)
  refine ⟨hm, decide_eq_false (by omega), fin_iff64.mpr (by rw [hm]; omega), zero_not64.mpr (by rw [hm]; omega)⟩
theorem pw_val {E : Nat} (h1 : 1 ≤ E) (h2 : E < 2047) : val64 (E * 4503599627370496) = 2 ^ (E + 51) := by
  have e : mag64 (E * 4503599627370496) = ((E - 1) + 1) * 2 ^ 52 := by
    rw [(pw_mag h1 h2).1, show E - 1 + 1 = E by omega]
  exact (congrArg (val 52) e).trans (val_topL (by omega))
theorem pw_one {E : Nat} (h1 : 1 ≤ E) (h2 : E < 2047) : mul64 4607182418800017408 (E * 4503599627370496) = E * 4503599627370496 := by
  rw [mul_comm64]
  exact mul_one64 (by omega) (fin_nan64 (pw_mag h1 h2).2.2.1).1
theorem scale_num {sm s E t L : Nat} (hL : L = 1074) (h : s + E = t + 1023) : sm * 2 ^ s * 2 ^ (E + 51) = sm * 2 ^ t * 2 ^ L := by
  rw [Nat.mul_assoc, Nat.mul_assoc, ← Nat.pow_add, ← Nat.pow_add, show s + (E + 51) = t + L by omega]
theorem scale_small {sm s E : Nat} (hsm : sm < 9007199254740992) (h : s + E < 1023) : sm * 2 ^ s * 2 ^ (E + 51) ≤ 4503599627370496 * 2 ^ 1074 := by
  have h1 : sm * 2 ^ s * 2 ^ (E + 51) = sm * 2 ^ (s + (E + 51)) := by rw [Nat.mul_assoc, ← Nat.pow_add]
  have h2 : sm * 2 ^ (s + (E + 51)) ≤ 9007199254740992 * 2 ^ (s + (E + 51)) := Nat.mul_le_mul_right _ (Nat.le_of_lt hsm)
  have h3 := Nat.pow_le_pow_right (n := 2) (by omega) (show s + (E + 51) ≤ 1073 by omega)
  have h4 := Nat.mul_le_mul_left 9007199254740992 h3
  have e := pow_succ2 1073
  rw [show 1073 + 1 = 1074 from rfl] at e
  rw [h1, e]
  generalize 2 ^ 1073 = q at *
  omega
theorem scale_ok {x E : Nat} (hx : x < 18446744073709551616) (h1 : 1 ≤ E) (h2 : E < 2047) (fx : fin64 x = true) (zx : isZero64 x = false) (fm : fin64 (mul64 x (E * 4503599627370496)) = true) (hm : 4503599627370496 < mag64 (mul64 x (E * 4503599627370496))) :
    div64 (mul64 x (E * 4503599627370496)) (E * 4503599627370496) = x ∧ (fe64 x = 0 ∨ ff64 x = ff64 (mul64 x (E * 4503599627370496))) := by
  obtain ⟨pm, pn, pf, pz⟩ := pw_mag h1 h2
  have pv := pw_val h1 h2
  have hmul := mul_fin64' fx pf
  rw [pn, bne_false64, pv, val_sm64] at hmul
  have hsm := sm_lt64 x
  have hpp := two_pow_pos 1074
  have hlm := fin_iff64.mp fm
  have hlx := fin_iff64.mp fx
  have hmg := mag_rd64 (neg64 x) (sm64 x * 2 ^ se64 x * 2 ^ (E + 51)) (2 ^ 1074)
  rw [← hmul] at hmg
  by_cases hs : se64 x + E < 1023
  · exfalso
    have h3 := scale_small hsm hs
    have hv : val 52 4503599627370496 = 4503599627370496 := by decide
    have h4 := rn_le (F := 52) (A := sm64 x * 2 ^ se64 x * 2 ^ (E + 51)) (B := 2 ^ 1074) (b := 4503599627370496) (by omega) hpp (by rw [hv]; exact h3)
    generalize rn 52 (sm64 x * 2 ^ se64 x * 2 ^ (E + 51)) (2 ^ 1074) = r at *
    omega
  · obtain ⟨t, ht⟩ : ∃ t, se64 x + E = t + 1023 := ⟨se64 x + E - 1023, by omega⟩
    have hnum := scale_num (sm := sm64 x) (L := 1074) rfl ht
    obtain ⟨b, hb, hbf⟩ : ∃ b, val 52 b = sm64 x * 2 ^ t ∧ (fe64 x = 0 ∨ b % 4503599627370496 = ff64 x) := by
      by_cases hE : fe64 x = 0
      · obtain ⟨b, hb⟩ := rep_val 52 t (sm64 x) (Nat.le_of_lt hsm)
        exact ⟨b, hb, .inl hE⟩
      · have hff := ff_lt64 x
        have e : sm64 x = 4503599627370496 + ff64 x := by unfold sm64; rw [if_neg hE]
        refine ⟨t * 2 ^ 52 + sm64 x, val_of 52 t _ (.inr (by rw [e]; omega)) (Nat.le_of_lt hsm), .inr ?_⟩
        rw [e, show (2 : Nat) ^ 52 = 4503599627370496 from rfl]; omega
    have hrn : rn 52 (sm64 x * 2 ^ se64 x * 2 ^ (E + 51)) (2 ^ 1074) = b := rn_of_val hpp (by rw [hnum, hb])
    rw [hrn] at hmg
    have hbl : mag64 (mul64 x (E * 4503599627370496)) = b := by omega
    have hnm : neg64 (mul64 x (E * 4503599627370496)) = neg64 x := by rw [hmul]; exact neg_rd64 _ _ _
    have hvm : val64 (mul64 x (E * 4503599627370496)) = sm64 x * 2 ^ t := by unfold val64; rw [hbl]; exact hb
    constructor
    · rw [div_fin64' fm pf pz, hnm, pn, bne_false64, hvm, pv, ← hnum, ← val_sm64]
      have := rd_mulval64 (x := x) (neg64 x) (two_pow_pos (E + 51)) (by omega)
      rw [this, sgn_mag64 hx]
    · rcases hbf with g | g
      · exact .inl g
      · right
        show ff64 x = mag64 (mul64 x (E * 4503599627370496)) % 4503599627370496
        rw [hbl]; exact g.symm
/-- bits that are moved -/
theorem shl1_53 {m : Nat} (hm : m < 18446744073709551616) : IntKind.u64.wrap ((m : Int) * 2) / 9007199254740992 = ((fe64 m : Nat) : Int) ∧ IntKind.u64.wrap ((m : Int) * 2) = ((mag64 m * 2 : Nat) : Int) := by
  rw [IntKind.wrap_u64]
  unfold fe64 mag64
  omega
theorem shl12 {m : Nat} (hm : m < 18446744073709551616) : IntKind.u64.wrap ((m : Int) * 4096) = ((ff64 m * 4096 : Nat) : Int) := by
  rw [IntKind.wrap_u64]
  unfold ff64 mag64
  omega
end Go.Proofs.Ytpjanmahbimhkaa.SF
