/-
  The walks of laws that reach no number of the reference.
-/
import Derived.Test.YthbdijmoohfomaaDivWalk
import Derived.Test.YthbdijmoohfomaaFrame
namespace Go.Proofs.Ythbdijmoohfomaa.SF
open Go.ChangeShapes Go.WideShapes Go.ChangeAt Go.RowKit
set_option linter.unusedVariables false

theorem neg_xor {x : Nat} (hx : x < 18446744073709551616) : ∃ y : Nat, bits .xor .u64 (x : Int) 9223372036854775808 = (y : Int) ∧ bits .xor .u64 (y : Int) 9223372036854775808 = (x : Int) ∧ y ≠ x ∧ y < 18446744073709551616 := by
  have h1 := u64_xor_nat x 9223372036854775808 hx (by omega)
  have hy : x ^^^ 9223372036854775808 < 18446744073709551616 := Nat.xor_lt_two_pow (n := 64) hx (by omega)
  have h2 := u64_xor_nat (x ^^^ 9223372036854775808) 9223372036854775808 hy (by omega)
  rw [Nat.xor_assoc, Nat.xor_self, Nat.xor_zero] at h2
  refine ⟨_, h1, h2, ?_, hy⟩
  intro h
  have h3 : x ^^^ (x ^^^ 9223372036854775808) = x ^^^ x := by rw [h]
  rw [← Nat.xor_assoc, Nat.xor_self, Nat.zero_xor] at h3
  omega

set_option maxRecDepth 100000 in
theorem fnExactNeg64 (x : Nat) (w : World) (hx : x < 18446744073709551616) : Calls Try.prog 3 #[.int .u64 (x : Int)] w (LawPost w) := by
  obtain ⟨y, h1, h2, h3, h4⟩ := neg_xor hx
  clear hx h2 h3 h4
  go_enter Try.func3, Try.ntmps3
  go_wp2
  go_ret
  exact ⟨rfl, Below.refl _ _⟩
set_option maxRecDepth 100000 in
theorem fnNegTwice (x : Nat) (w : World) (hx : x < 18446744073709551616) : Calls Try.prog 4 #[.int .u64 (x : Int)] w (LawPost w) := by
  obtain ⟨y, h1, h2, h3, h4⟩ := neg_xor hx
  have h5 : ((y : Int) != (x : Int)) = true := by simp; omega
  clear hx h3 h4
  go_enter Try.func4, Try.ntmps4
  go_wp2
  go_ret
  exact ⟨rfl, Below.refl _ _⟩
set_option maxRecDepth 100000 in
theorem implMullu_any (u v : Nat) (w : World) (hu : u < 18446744073709551616) (hv : v < 18446744073709551616) :
    Calls Try.prog 16 #[.int .u64 (u : Int), .int .u64 (v : Int)] w (MulPost u v w) := by
  have H := Lib.hid (mullu_any u v w hu hv)
  clear hu hv
  go_enter Try.func16, Try.ntmps16
  go_wp2_with (first | (go_at_call 59; refine (H.out).mono ?_; rintro e w' ⟨rfl, rfl⟩) | go_in)
  go_ret2
  exact ⟨rfl, rfl⟩
set_option maxRecDepth 100000 in
theorem implDivlu_any (u1 u0 v N : Nat) (w : World) (hN : N = u1 * 18446744073709551616 + u0) (h1 : u1 < v) (h0 : u0 < 18446744073709551616) (hv : v < 18446744073709551616) :
    Calls Try.prog 30 #[.int .u64 (u1 : Int), .int .u64 (u0 : Int), .int .u64 (v : Int)] w (DivPost N v w) := by
  have H := Lib.hid (divlu_any u1 u0 v N w (Lib.hid hN) (by omega) (Lib.hid h0) (Lib.hid hv))
  clear hN h1 h0 hv
  go_enter Try.func30, Try.ntmps30
  go_wp2_with (first | (go_at_call 62; refine (H.out).mono ?_; rintro e w' ⟨rfl, rfl⟩) | go_in)
  go_ret2
  exact ⟨rfl, rfl⟩
set_option maxRecDepth 100000 in
theorem fnMulluOrder (u v : Nat) (w : World) (hu : u < 18446744073709551616) (hv : v < 18446744073709551616) : Calls Try.prog 6 #[.int .u64 (u : Int), .int .u64 (v : Int)] w (LawPost w) := by
  have H1 := implMullu_any u v w hu hv
  have H2 := implMullu_any v u w hv hu
  have e : IntKind.u64.wrap ((u : Int) * (v : Int)) = ((u * v % 18446744073709551616 : Nat) : Int) := by
    rw [IntKind.wrap_u64, ← Int.natCast_mul]; omega
  unfold MulPost at H1 H2
  rw [Nat.mul_comm v u] at H2
  generalize u * v % 18446744073709551616 = lo at *
  generalize u * v / 18446744073709551616 = hi at *
  have G1 := Lib.hid H1
  have G2 := Lib.hid H2
  clear hu hv H1 H2
  go_enter Try.func6, Try.ntmps6
  go_wp2_with fail
  refine (G1.out).mono ?_
  rintro e w' ⟨rfl, rfl⟩
  go_wp2_with fail
  refine (G2.out).mono ?_
  rintro e w' ⟨rfl, rfl⟩
  go_wp2_with fail
  go_ret
  exact ⟨rfl, Below.refl _ _⟩
set_option maxRecDepth 100000 in
theorem fnDivluSmall (u v : Nat) (w : World) (hu : u < 18446744073709551616) (hv : v < 18446744073709551616) : Calls Try.prog 9 #[.int .u64 (u : Int), .int .u64 (v : Int)] w (LawPost w) := by
  by_cases h0 : v = 0
  · have e0 : ((v : Int) == 0) = true := by simp [h0]
    clear h0 hu hv
    go_enter Try.func9, Try.ntmps9
    go_wp2_with fail
    go_ret
    exact ⟨rfl, Below.refl _ _⟩
  · have e0 : ((v : Int) == 0) = false := by simp [h0]
    have hv1 : 1 ≤ (v : Int) := by omega
    have H1 := implDivlu_any 0 u v u w (by omega) (by omega) hu hv
    have e1 : IntKind.u64.wrap ((u : Int) / (v : Int)) = ((u / v : Nat) : Int) := by
      have : (u : Int) / (v : Int) = ((u / v : Nat) : Int) := by simp
      rw [this]; exact wrap_u64_nat (Nat.lt_of_le_of_lt (Nat.div_le_self _ _) hu)
    have e4 : (u : Int) % (v : Int) = ((u % v : Nat) : Int) := by simp
    unfold DivPost at H1
    generalize u / v = q at *
    generalize u % v = r at *
    have G1 := Lib.hid H1
    clear hu hv H1 h0
    go_enter Try.func9, Try.ntmps9
    go_wp2_with fail
    refine (G1.out).mono ?_
    rintro e w' ⟨rfl, rfl⟩
    go_wp2_with fail
    go_ret
    exact ⟨rfl, Below.refl _ _⟩
end Go.Proofs.Ythbdijmoohfomaa.SF
