/-
  The walks of laws that reach no number of the reference.
-/
import Derived.Test.YteajgejpjodfbaaDivWalk
import Derived.Test.YteajgejpjodfbaaFrame
namespace Go.Proofs.Yteajgejpjodfbaa.SF
open Go.ChangeShapes Go.WideShapes Go.ChangeAt Go.RowKit
set_option linter.unusedVariables false

theorem neg_xor {x : Nat} (hx : x < 18446744073709551616) : ∃ y : Nat, bits .xor .u64 (x : Int) 9223372036854775808 = (y : Int) ∧ bits .xor .u64 (y : Int) 9223372036854775808 = (x : Int) ∧ y ≠ x ∧ y < 18446744073709551616 := by
  have h1 := u64_xor_nat x 9223372036854775808 hx (by omega)
  have hy : x ^^^ 9223372036854775808 < 18446744073709551616 := Nat.xor_lt_two_pow (n := 64) hx (by omega)
  have h2 := u64_xor_nat (x ^^^ 9223372036854775808) 9223372036854775808 hy (by omega)
  rw [Nat.xor_assoc, Nat.xor_self, Nat.xor_zero] at h2
  refine ⟨_, h1, h2, ?_, hy⟩
  intro h
  have h3 : x ^^^ (x ^^^ 9223372036854775808) = x ^^^ x := by rw [h]
  rw [← Nat.xor_assoc, Nat.xor_self, Nat.zero_xor] at h3
  omega

set_option maxRecDepth 100000 in
theorem implMullu_any (u v : Nat) (w : World) (hu : u < 18446744073709551616) (hv : v < 18446744073709551616) :
    Calls Try.prog 21 #[.int .u64 (u : Int), .int .u64 (v : Int)] w (MulPost u v w) := by
  have H := Lib.hid (mullu_any u v w hu hv)
  clear hu hv
  go_enter Try.func21, Try.ntmps21
  go_wp2_with (first | (go_at_call 89; refine (H.out).mono ?_; rintro e w' ⟨rfl, rfl⟩) | go_in)
  go_ret2
  exact ⟨rfl, rfl⟩
set_option maxRecDepth 100000 in
theorem implDivlu_any (u1 u0 v N : Nat) (w : World) (hN : N = u1 * 18446744073709551616 + u0) (h1 : u1 < v) (h0 : u0 < 18446744073709551616) (hv : v < 18446744073709551616) :
    Calls Try.prog 22 #[.int .u64 (u1 : Int), .int .u64 (u0 : Int), .int .u64 (v : Int)] w (DivPost N v w) := by
  have H := Lib.hid (divlu_any u1 u0 v N w (Lib.hid hN) (by omega) (Lib.hid h0) (Lib.hid hv))
  clear hN h1 h0 hv
  go_enter Try.func22, Try.ntmps22
  go_wp2_with (first | (go_at_call 90; refine (H.out).mono ?_; rintro e w' ⟨rfl, rfl⟩) | go_in)
  go_ret2
  exact ⟨rfl, rfl⟩
set_option maxRecDepth 100000 in
theorem fnMulluDivlu (q r v : Nat) (w : World) (hq : q < 18446744073709551616) (hr : r < 18446744073709551616) (hv : v < 18446744073709551616) : Calls Try.prog 6 #[.int .u64 (q : Int), .int .u64 (r : Int), .int .u64 (v : Int)] w (LawPost w) := by
  by_cases hrv : (v : Int) ≤ (r : Int)
  · have e0 : decide ((v : Int) ≤ (r : Int)) = true := decide_eq_true hrv
    clear hq hr hv
    go_enter Try.func6, Try.ntmps6
    go_wp2_with fail
    go_ret
    exact ⟨rfl, Below.refl _ _⟩
  · have e0 : decide ((v : Int) ≤ (r : Int)) = false := decide_eq_false hrv
    have H1 := implMullu_any q v w hq hv
    unfold MulPost at H1
    have hlt : q * v + r < 18446744073709551616 * v := by
      have h1 : (q + 1) * v ≤ 18446744073709551616 * v := Nat.mul_le_mul_right _ hq
      rw [Nat.add_mul, Nat.one_mul] at h1
      omega
    have hdiv : (q * v + r) / v = q ∧ (q * v + r) % v = r := by
      constructor
      · rw [Nat.mul_comm, Nat.mul_add_div (by omega), Nat.div_eq_of_lt (by omega)]; omega
      · rw [Nat.mul_comm, Nat.mul_add_mod, Nat.mod_eq_of_lt (by omega)]
    have hlo : q * v % 18446744073709551616 < 18446744073709551616 := Nat.mod_lt _ (by omega)
    have hdm := Nat.div_add_mod (q * v) 18446744073709551616
    generalize hP : q * v = P at *
    by_cases hc : P % 18446744073709551616 + r < 18446744073709551616
    · have ew : IntKind.u64.wrap (((P % 18446744073709551616 : Nat) : Int) + (r : Int)) = ((P % 18446744073709551616 + r : Nat) : Int) := by
        rw [← Int.natCast_add]; exact wrap_u64_nat hc
      have H2 := implDivlu_any (P / 18446744073709551616) (P % 18446744073709551616 + r) v (P + r) w (by omega) (by omega) (by omega) hv
      unfold DivPost at H2
      rw [hdiv.1, hdiv.2] at H2
      have hd : P % 18446744073709551616 ≤ P % 18446744073709551616 + r := by omega
      generalize P % 18446744073709551616 + r = sum at *
      generalize P % 18446744073709551616 = lo at *
      generalize P / 18446744073709551616 = hi at *
      have G1 := Lib.hid H1
      have G2 := Lib.hid H2
      clear hq hr hv H1 H2 hlt hdiv hlo hdm hP hc
      go_enter Try.func6, Try.ntmps6
      go_wp2_with fail
      refine (G1.out).mono ?_
      rintro e w' ⟨rfl, rfl⟩
      go_wp2_with fail
      refine (G2.out).mono ?_
      rintro e w' ⟨rfl, rfl⟩
      go_wp2_with fail
      go_ret
      exact ⟨rfl, Below.refl _ _⟩
    · have ew : IntKind.u64.wrap (((P % 18446744073709551616 : Nat) : Int) + (r : Int)) = ((P % 18446744073709551616 + r - 18446744073709551616 : Nat) : Int) := by
        rw [IntKind.wrap_u64]; omega
      have ehi : IntKind.u64.wrap (((P / 18446744073709551616 : Nat) : Int) + 1) = ((P / 18446744073709551616 + 1 : Nat) : Int) := by
        rw [IntKind.wrap_u64]; omega
      have H2 := implDivlu_any (P / 18446744073709551616 + 1) (P % 18446744073709551616 + r - 18446744073709551616) v (P + r) w (by omega) (by omega) (by omega) hv
      unfold DivPost at H2
      rw [hdiv.1, hdiv.2] at H2
      have hd : P % 18446744073709551616 + r - 18446744073709551616 < P % 18446744073709551616 := by omega
      generalize P % 18446744073709551616 + r - 18446744073709551616 = sum at *
      generalize P % 18446744073709551616 = lo at *
      generalize P / 18446744073709551616 + 1 = hi1 at *
      generalize P / 18446744073709551616 = hi at *
      have G1 := Lib.hid H1
      have G2 := Lib.hid H2
      clear hq hr hv H1 H2 hlt hdiv hlo hdm hP hc
      go_enter Try.func6, Try.ntmps6
      go_wp2_with fail
      refine (G1.out).mono ?_
      rintro e w' ⟨rfl, rfl⟩
      go_wp2_with fail
      refine (G2.out).mono ?_
      rintro e w' ⟨rfl, rfl⟩
      go_wp2_with fail
      go_ret
      exact ⟨rfl, Below.refl _ _⟩
end Go.Proofs.Yteajgejpjodfbaa.SF
