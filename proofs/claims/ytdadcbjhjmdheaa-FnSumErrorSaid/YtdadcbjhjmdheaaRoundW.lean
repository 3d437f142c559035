/-
  The walks through the reference's log and Round.
-/
import Derived.Test.YtdadcbjhjmdheaaRoundP
import Derived.Deep.DeepCutAuto
namespace Go.Proofs.Ytdadcbjhjmdheaa.SF
open Go.ChangeShapes Go.WideShapes Go.ChangeAt Go.RowKit
set_option linter.unusedVariables false

theorem blen_le {a K : Nat} (h : a < 2 ^ (32 * K)) : blen a ≤ 32 * K := by
  unfold blen
  split
  · omega
  · rename_i h0
    have := (Nat.log2_lt h0).mpr h
    omega

def LogPost (num den K : Nat) (w : World) : Ending → World → Prop := fun e w' => ∃ lg : Int, e = .returned (.int .i64 lg) ∧ Lg num den lg ∧ -(32 * K : Int) - 1 ≤ lg ∧ lg ≤ 32 * K ∧ Below w.heap.size w w'

theorem cmpI_lt {a b : Nat} (h : a < b) : cmpI a b = -1 := by simp [cmpI, h]
theorem cmpI_ge {a b : Nat} (h : ¬ a < b) : 0 ≤ cmpI a b := by unfold cmpI; rw [if_neg h]; split <;> omega

set_option maxRecDepth 100000 in
set_option maxHeartbeats 1000000 in
theorem log_any (w : World) (va vb : Value) (num den K : Nat) (hK : K ≤ 4000) (ha : NatAt w va num) (hb : NatAt w vb den) (la : num < 2 ^ (32 * K)) (lb : den < 2 ^ (32 * K)) (hn : 0 < num) (hd : 0 < den) :
    Calls Try.prog 79 #[va, vb] w (LogPost num den K w) := by
  have C1 := Lib.hid (natLen K (by omega) ha la)
  have C2 := Lib.hid (natLen K (by omega) hb lb)
  have hbn := blen_le la
  have hbd := blen_le lb
  generalize h1 : blen num = bn at C1 hbn
  generalize h2 : blen den = bd at C2 hbd
  have H1 := Lib.hid h1
  have H2 := Lib.hid h2
  have HA := Lib.hid ha
  have HB := Lib.hid hb
  have LA := Lib.hid la
  have LB := Lib.hid lb
  clear h1 h2 ha hb la lb
  by_cases hge : bd ≤ bn
  · obtain ⟨k, hk⟩ : ∃ k, bn = bd + k := ⟨bn - bd, by omega⟩
    have ek : (bn : Int) - (bd : Int) = (k : Int) := by omega
    have hkl : k ≤ 32 * K := by omega
    have HKE := Lib.hid hk
    clear hk hge
    have lsh : den * 2 ^ k < 2 ^ (32 * (2 * K)) := by
      refine Nat.lt_of_lt_of_le (mul_pow_lt LB.out) (Nat.pow_le_pow_right (by omega) (by omega))
    have LSH := Lib.hid lsh
    have lan : num < 2 ^ (32 * (2 * K)) := Nat.lt_of_lt_of_le LA.out (Nat.pow_le_pow_right (by omega) (by omega))
    have LAN := Lib.hid lan
    clear lsh lan
    by_cases hc : num < den * 2 ^ k
    · have R := Lib.hid (Lg.ge_less hn hd H1.out H2.out HKE.out hc)
      have hcm := Lib.hid (cmpI_lt hc)
      clear hc
      go_enter Try.func79, Try.ntmps79
      go_wp2_with fail
      refine (C1.out).mono ?_
      rintro e w' ⟨rfl, rfl⟩
      go_wp2_with fail
      refine (C2.out).mono ?_
      rintro e w' ⟨rfl, rfl⟩
      go_wp2_with fail
      refine (natShl (s := k) K (by omega) HB.out LB.out (by omega)).mono ?_
      rintro e w1 ⟨v1, rfl, n1, b1⟩
      have C3 := Lib.hid (natCmp (2 * K) (by omega) (HA.out.below b1) n1 LAN.out LSH.out)
      have B1 := Lib.hid b1
      clear n1 b1
      go_wp2_with fail
      refine (C3.out).mono ?_
      rintro e w2 ⟨rfl, rfl⟩
      rw [hcm.out]
      go_wp2_with fail
      go_ret
      exact ⟨_, rfl, R.out, by omega, by omega, B1.out⟩
    · have R := Lib.hid (Lg.ge_else hn hd H1.out H2.out HKE.out hc)
      have hcm := cmpI_ge hc
      generalize hcd : cmpI num (den * 2 ^ k) = c at hcm
      have HCD := Lib.hid hcd
      clear hc hcd
      go_enter Try.func79, Try.ntmps79
      go_wp2_with fail
      refine (C1.out).mono ?_
      rintro e w' ⟨rfl, rfl⟩
      go_wp2_with fail
      refine (C2.out).mono ?_
      rintro e w' ⟨rfl, rfl⟩
      go_wp2_with fail
      refine (natShl (s := k) K (by omega) HB.out LB.out (by omega)).mono ?_
      rintro e w1 ⟨v1, rfl, n1, b1⟩
      have C3 := Lib.hid (natCmp (2 * K) (by omega) (HA.out.below b1) n1 LAN.out LSH.out)
      have B1 := Lib.hid b1
      clear n1 b1
      go_wp2_with fail
      refine (C3.out).mono ?_
      rintro e w2 ⟨rfl, rfl⟩
      rw [HCD.out]
      go_wp2_with fail
      go_ret
      exact ⟨_, rfl, R.out, by omega, by omega, B1.out⟩
  · obtain ⟨k, hk, hk0⟩ : ∃ k, bn + k = bd ∧ 0 < k := ⟨bd - bn, by omega, by omega⟩
    have ek : (bn : Int) - (bd : Int) = -(k : Int) := by omega
    have hkl : k ≤ 32 * K := by omega
    have HKE := Lib.hid hk
    clear hk hge
    have ek2 : -(-(k : Int)) = (k : Int) := by omega
    have lsh : num * 2 ^ k < 2 ^ (32 * (2 * K)) := by
      refine Nat.lt_of_lt_of_le (mul_pow_lt LA.out) (Nat.pow_le_pow_right (by omega) (by omega))
    have LSH := Lib.hid lsh
    have lan : den < 2 ^ (32 * (2 * K)) := Nat.lt_of_lt_of_le LB.out (Nat.pow_le_pow_right (by omega) (by omega))
    have LAN := Lib.hid lan
    clear lsh lan
    by_cases hc : num * 2 ^ k < den
    · have R := Lib.hid (Lg.lt_less hn hd H1.out H2.out HKE.out hc)
      have hcm := Lib.hid (cmpI_lt hc)
      clear hc
      go_enter Try.func79, Try.ntmps79
      go_wp2_with fail
      refine (C1.out).mono ?_
      rintro e w' ⟨rfl, rfl⟩
      go_wp2_with fail
      refine (C2.out).mono ?_
      rintro e w' ⟨rfl, rfl⟩
      go_wp2_with fail
      refine (natShl (s := k) K (by omega) HA.out LA.out (by omega)).mono ?_
      rintro e w1 ⟨v1, rfl, n1, b1⟩
      have C3 := Lib.hid (natCmp (2 * K) (by omega) n1 (HB.out.below b1) LSH.out LAN.out)
      have B1 := Lib.hid b1
      clear n1 b1
      go_wp2_with fail
      refine (C3.out).mono ?_
      rintro e w2 ⟨rfl, rfl⟩
      rw [hcm.out]
      go_wp2_with fail
      go_ret
      exact ⟨_, rfl, R.out, by omega, by omega, B1.out⟩
    · have R := Lib.hid (Lg.lt_else hn hd H1.out H2.out HKE.out hc)
      have hcm := cmpI_ge hc
      generalize hcd : cmpI (num * 2 ^ k) den = c at hcm
      have HCD := Lib.hid hcd
      clear hc hcd
      go_enter Try.func79, Try.ntmps79
      go_wp2_with fail
      refine (C1.out).mono ?_
      rintro e w' ⟨rfl, rfl⟩
      go_wp2_with fail
      refine (C2.out).mono ?_
      rintro e w' ⟨rfl, rfl⟩
      go_wp2_with fail
      refine (natShl (s := k) K (by omega) HA.out LA.out (by omega)).mono ?_
      rintro e w1 ⟨v1, rfl, n1, b1⟩
      have C3 := Lib.hid (natCmp (2 * K) (by omega) n1 (HB.out.below b1) LSH.out LAN.out)
      have B1 := Lib.hid b1
      clear n1 b1
      go_wp2_with fail
      refine (C3.out).mono ?_
      rintro e w2 ⟨rfl, rfl⟩
      rw [HCD.out]
      go_wp2_with fail
      go_ret
      exact ⟨_, rfl, R.out, by omega, by omega, B1.out⟩
end Go.Proofs.Ytdadcbjhjmdheaa.SF
