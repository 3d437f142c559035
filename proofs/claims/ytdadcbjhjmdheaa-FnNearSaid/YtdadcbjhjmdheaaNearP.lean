/-
  Plain mathematics: twice a float, compared.
-/
import Derived.Test.YtdadcbjhjmdheaaSumP
import Derived.Test.YtdadcbjhjmdheaaOrdC
import Derived.Test.YtdadcbjhjmdheaaCmpK
import Derived.Test.YtdadcbjhjmdheaaSpecAdd
namespace Go.Proofs.Ytdadcbjhjmdheaa.SF
open Go.RowKit
set_option linter.unusedVariables false

theorem neg_mag64 (x : Nat) : neg64 (mag64 x) = false := by have := mag_lt64 x; unfold neg64; exact decide_eq_false (by omega)
theorem nanAdd_same {p : Nat} (fp : fin64 p = true) : nanAdd64 p p = false := by
  have h := fin_nan64 fp
  unfold nanAdd64
  rw [h.1, h.2]; simp
theorem twice_le {p q : Nat} (fp : fin64 p = true) (fq : fin64 q = true) (np : neg64 p = false) (nq : neg64 q = false) (h : ordI (key64 p) (key64 (add64 q q)) ≤ 0) : val64 p ≤ 2 * val64 q := by
  have h1 := ord_le.mp h
  have sq : sv64 q = val64 q := by rw [sv_sk64, nq]; rfl
  rw [add_ff64 fq fq, key_addf64, sq] at h1
  have kp : key64 p = mag64 p := by unfold key64; rw [np]; rfl
  rw [kp] at h1
  unfold rk64 at h1
  rw [decide_eq_false (by omega)] at h1
  simp only [sk, Bool.false_eq_true, if_false] at h1
  rcases Nat.lt_or_ge (2 * val64 q) (val64 p) with g | g
  · exfalso
    obtain ⟨b, hb⟩ := rep_val 52 (se64 q + 1) (sm64 q) (by have := sm_lt64 q; exact Nat.le_of_lt this)
    have e : val 52 b = 2 * val64 q := by rw [hb, pow_succ2, val_sm64]; ac_rfl
    have hr : rn 52 ((val64 q : Int) + val64 q).natAbs 1 = b := by
      rw [show ((val64 q : Int) + val64 q).natAbs = val 52 b by omega]; exact rn_val
    rw [hr] at h1
    have hlt : b < mag64 p := by
      apply (val_lt_iff 52).mp
      show val 52 b < val64 p
      omega
    omega
  · exact g
end Go.Proofs.Ytdadcbjhjmdheaa.SF
