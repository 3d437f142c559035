/-
  The contracts of the reference's numbers, by the numbers that the slices hold.
-/
import Derived.Test.YtpjanmahbimhkaaNatE
namespace Go.Proofs.Ytpjanmahbimhkaa.SF
open Go.ChangeShapes Go.WideShapes Go.ChangeAt Go.RowKit
set_option linter.unusedVariables false

theorem top_le {ds : List Nat} {k K : Nat} (hl : ds.length = k) (ht : k = 0 ∨ ds.getD (k - 1) 0 ≠ 0) (h : dval ds < 2 ^ (32 * K)) : k ≤ K := by
  rcases ht with h0 | h0
  · omega
  · rcases Nat.eq_zero_or_pos k with hk | hk
    · omega
    · obtain ⟨m, rfl⟩ : ∃ m, k = m + 1 := ⟨k - 1, by omega⟩
      rw [dval_eq ds (m + 1) (by omega), dvf] at h
      have h1 : ds.getD m 0 ≠ 0 := by simpa using h0
      have h2 : 2 ^ (32 * m) ≤ ds.getD m 0 * 2 ^ (32 * m) := Nat.le_mul_of_pos_left _ (by omega)
      have h3 : 2 ^ (32 * m) < 2 ^ (32 * K) := by omega
      have := (Nat.pow_lt_pow_iff_right (a := 2) (by omega)).mp h3
      omega

theorem NatAt.form {w : World} {v : Value} {N : Nat} (h : NatAt w v N) : ∃ A k cap ds, v = .slice A k cap ∧ Row w A k cap ds ∧ dval ds = N ∧ (k = 0 ∨ ds.getD (k - 1) 0 ≠ 0) := h

theorem natShl {w : World} {va : Value} {a s : Nat} (K : Nat) (hK : K ≤ 1000000) (ha : NatAt w va a) (la : a < 2 ^ (32 * K)) (hs : s ≤ 32000000) : Calls Try.prog 36 #[va, .int .i64 (s : Int)] w (NatPost w (a * 2 ^ s)) := by
  obtain ⟨A, k, cap, ds, rfl, hr, rfl, ht⟩ := ha
  have h1 := top_le hr.len ht la
  exact natShl_any w A k cap ds s hr (by omega) hs
theorem natCmp {w : World} {va vb : Value} {a b : Nat} (K : Nat) (hK : K ≤ 1000000) (ha : NatAt w va a) (hb : NatAt w vb b) (la : a < 2 ^ (32 * K)) (lb : b < 2 ^ (32 * K)) : Calls Try.prog 35 #[va, vb] w fun e w' => e = .returned (.int .i64 (cmpI a b)) ∧ w = w' := by
  obtain ⟨A, k, cap, ds, rfl, hr, rfl, ht⟩ := ha
  obtain ⟨A', k', cap', es, rfl, hr', rfl, ht'⟩ := hb
  have h1 := top_le hr.len ht la
  have h2 := top_le hr'.len ht' lb
  exact natCmp_any w A k cap ds A' k' cap' es hr hr' (by omega) (by omega)

theorem cmpI_self (a : Nat) : cmpI a a = 0 := by simp [cmpI]

theorem below_trans' {a b c : World} (h : Below a.heap.size a b) (k : Below b.heap.size b c) : Below a.heap.size a c := h.trans (k.mono h.size)

end Go.Proofs.Ytpjanmahbimhkaa.SF
