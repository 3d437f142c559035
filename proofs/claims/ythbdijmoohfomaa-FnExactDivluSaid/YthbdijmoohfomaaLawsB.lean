/-
  The walks of the laws on products and quotients of whole numbers, against the reference's numbers.
-/
import Derived.Test.YthbdijmoohfomaaLawsA
import Derived.Test.YthbdijmoohfomaaNatV
namespace Go.Proofs.Ythbdijmoohfomaa.SF
open Go.ChangeShapes Go.WideShapes Go.ChangeAt Go.RowKit
set_option linter.unusedVariables false

set_option maxRecDepth 100000 in
theorem fnExactMullu (u v : Nat) (w : World) (hu : u < 18446744073709551616) (hv : v < 18446744073709551616) : Calls Try.prog 5 #[.int .u64 (u : Int), .int .u64 (v : Int)] w (LawPost w) := by
  have G1 := implMullu_any u v w hu hv
  unfold MulPost at G1
  have hlo : u * v % 18446744073709551616 < 18446744073709551616 := Nat.mod_lt _ (by omega)
  have hhi : u * v / 18446744073709551616 < 18446744073709551616 := by
    rw [Nat.div_lt_iff_lt_mul (by omega)]
    exact Nat.mul_lt_mul'' hu hv
  have hval : u * v / 18446744073709551616 * 2 ^ 64 + u * v % 18446744073709551616 = u * v := by
    have := Nat.div_add_mod (u * v) 18446744073709551616
    omega
  have hP : u * v < 2 ^ (32 * 4) := Nat.lt_of_lt_of_le (Nat.mul_lt_mul'' hu hv) (by decide)
  generalize u * v % 18446744073709551616 = lo at *
  generalize u * v / 18446744073709551616 = hi at *
  have H1 := Lib.hid G1
  have HU := Lib.hid hu
  have HV := Lib.hid hv
  have HL := Lib.hid hlo
  have HH := Lib.hid hhi
  have HVAL := Lib.hid hval
  have HP := Lib.hid hP
  clear G1 hu hv hlo hhi hval hP
  go_enter Try.func5, Try.ntmps5
  go_wp2_with fail
  refine (H1.out).mono ?_
  rintro e w' ⟨rfl, rfl⟩
  go_wp2_with fail
  refine (natOf_any _ hi HH.out).mono ?_
  rintro e w1 ⟨v1, rfl, n1, b1⟩
  have N1 := Lib.hid n1
  have B1 := Lib.hid b1
  clear n1 b1
  go_wp2_with fail
  refine (natShl (s := 64) 4 (by omega) N1.out (Nat.lt_of_lt_of_le HH.out (by decide)) (by omega)).mono ?_
  rintro e w2 ⟨v2, rfl, n2, b2⟩
  have N2 := Lib.hid n2
  have B2 := Lib.hid (below_trans' B1.out b2)
  clear n2 b2
  go_wp2_with fail
  refine (natOf_any _ lo HL.out).mono ?_
  rintro e w3 ⟨v3, rfl, n3, b3⟩
  have N3 := Lib.hid n3
  have N2' := Lib.hid (N2.out.below b3)
  have B3 := Lib.hid (below_trans' B2.out b3)
  clear n3 b3
  go_wp2_with fail
  refine (natAdd 4 (by omega) N2'.out N3.out (by have := HVAL.out; have := HP.out; omega) (Nat.lt_of_lt_of_le HL.out (by decide))).mono ?_
  rintro e w4 ⟨v4, rfl, n4, b4⟩
  rw [HVAL.out] at n4
  have N4 := Lib.hid n4
  have B4 := Lib.hid (below_trans' B3.out b4)
  clear n4 b4
  go_wp2_with fail
  refine (natOf_any _ u HU.out).mono ?_
  rintro e w5 ⟨v5, rfl, n5, b5⟩
  have N5 := Lib.hid n5
  have N4' := Lib.hid (N4.out.below b5)
  have B5 := Lib.hid (below_trans' B4.out b5)
  clear n5 b5
  go_wp2_with fail
  refine (natOf_any _ v HV.out).mono ?_
  rintro e w6 ⟨v6, rfl, n6, b6⟩
  have N6 := Lib.hid n6
  have N5' := Lib.hid (N5.out.below b6)
  have N4'' := Lib.hid (N4'.out.below b6)
  have B6 := Lib.hid (below_trans' B5.out b6)
  clear n6 b6
  go_wp2_with fail
  refine (natMul 4 (by omega) N5'.out N6.out (Nat.lt_of_lt_of_le HU.out (by decide)) (Nat.lt_of_lt_of_le HV.out (by decide))).mono ?_
  rintro e w7 ⟨v7, rfl, n7, b7⟩
  have N7 := Lib.hid n7
  have N8 := Lib.hid (N4''.out.below b7)
  have B7 := Lib.hid (below_trans' B6.out b7)
  clear n7 b7
  go_wp2_with fail
  refine (natCmp 4 (by omega) N8.out N7.out HP.out HP.out).mono ?_
  rintro e w8 ⟨rfl, rfl⟩
  rw [cmpI_self]
  go_wp2_with fail
  go_ret
  exact ⟨rfl, B7.out⟩
set_option maxRecDepth 100000 in
theorem fnExactDivlu (u1 u0 v : Nat) (w : World) (hu1 : u1 < 18446744073709551616) (hu0 : u0 < 18446744073709551616) (hv : v < 18446744073709551616) : Calls Try.prog 10 #[.int .u64 (u1 : Int), .int .u64 (u0 : Int), .int .u64 (v : Int)] w (LawPost w) := by
  by_cases hge : (v : Int) ≤ (u1 : Int)
  · have hd : decide ((v : Int) ≤ (u1 : Int)) = true := decide_eq_true hge
    clear hu1 hu0 hv
    go_enter Try.func10, Try.ntmps10
    go_wp2_with fail
    go_ret
    exact ⟨rfl, Below.refl _ _⟩
  · have hd : decide ((v : Int) ≤ (u1 : Int)) = false := decide_eq_false hge
    obtain ⟨N, hN⟩ : ∃ N, N = u1 * 18446744073709551616 + u0 := ⟨_, rfl⟩
    have G1 := implDivlu_any u1 u0 v N w hN (by omega) hu0 hv
    unfold DivPost at G1
    have hq : N / v < 18446744073709551616 := by
      rw [Nat.div_lt_iff_lt_mul (by omega)]
      have : (u1 + 1) * 18446744073709551616 ≤ v * 18446744073709551616 := Nat.mul_le_mul_right _ (by omega)
      rw [Nat.mul_comm 18446744073709551616]
      omega
    have hr : N % v < v := Nat.mod_lt _ (by omega)
    have hval : N / v * v + N % v = N := by rw [Nat.mul_comm]; exact Nat.div_add_mod N v
    have hval2 : u1 * 2 ^ 64 + u0 = N := by rw [hN]
    have hP : N < 2 ^ (32 * 4) := by
      rw [hN]
      have : (2 : Nat) ^ (32 * 4) = 18446744073709551616 * 18446744073709551616 := by decide
      omega
    have hrl : N % v < 18446744073709551616 := by omega
    have hrv : decide (((N % v : Nat) : Int) < (v : Int)) = true := decide_eq_true (by omega)
    generalize N / v = q at *
    generalize N % v = r at *
    have H1 := Lib.hid G1
    have HU1 := Lib.hid hu1
    have HU0 := Lib.hid hu0
    have HV := Lib.hid hv
    have HQ := Lib.hid hq
    have HR := Lib.hid hrl
    have HVAL := Lib.hid hval
    have HVAL2 := Lib.hid hval2
    have HP := Lib.hid hP
    clear G1 hu1 hu0 hv hq hrl hval hval2 hP hN hrv
    go_enter Try.func10, Try.ntmps10
    go_wp2_with fail
    refine (H1.out).mono ?_
    rintro e w' ⟨rfl, rfl⟩
    go_wp2_with fail
    refine (natOf_any _ q HQ.out).mono ?_
    rintro e w1 ⟨v1, rfl, n1, b1⟩
    have N1 := Lib.hid n1
    have B1 := Lib.hid b1
    clear n1 b1
    go_wp2_with fail
    refine (natOf_any _ v HV.out).mono ?_
    rintro e w2 ⟨v2, rfl, n2, b2⟩
    have N2 := Lib.hid n2
    have N1' := Lib.hid (N1.out.below b2)
    have B2 := Lib.hid (below_trans' B1.out b2)
    clear n2 b2
    go_wp2_with fail
    refine (natMul 4 (by omega) N1'.out N2.out (Nat.lt_of_lt_of_le HQ.out (by decide)) (Nat.lt_of_lt_of_le HV.out (by decide))).mono ?_
    rintro e w3 ⟨v3, rfl, n3, b3⟩
    have N3 := Lib.hid n3
    have B3 := Lib.hid (below_trans' B2.out b3)
    clear n3 b3
    go_wp2_with fail
    refine (natOf_any _ r HR.out).mono ?_
    rintro e w4 ⟨v4, rfl, n4, b4⟩
    have N4 := Lib.hid n4
    have N3' := Lib.hid (N3.out.below b4)
    have B4 := Lib.hid (below_trans' B3.out b4)
    clear n4 b4
    go_wp2_with fail
    refine (natAdd 4 (by omega) N3'.out N4.out (by have := HVAL.out; have := HP.out; omega) (Nat.lt_of_lt_of_le HR.out (by decide))).mono ?_
    rintro e w5 ⟨v5, rfl, n5, b5⟩
    rw [HVAL.out] at n5
    have N5 := Lib.hid n5
    have B5 := Lib.hid (below_trans' B4.out b5)
    clear n5 b5
    go_wp2_with fail
    refine (natOf_any _ u1 HU1.out).mono ?_
    rintro e w6 ⟨v6, rfl, n6, b6⟩
    have N6 := Lib.hid n6
    have N5' := Lib.hid (N5.out.below b6)
    have B6 := Lib.hid (below_trans' B5.out b6)
    clear n6 b6
    go_wp2_with fail
    refine (natShl (s := 64) 4 (by omega) N6.out (Nat.lt_of_lt_of_le HU1.out (by decide)) (by omega)).mono ?_
    rintro e w7 ⟨v7, rfl, n7, b7⟩
    have N7 := Lib.hid n7
    have N5'' := Lib.hid (N5'.out.below b7)
    have B7 := Lib.hid (below_trans' B6.out b7)
    clear n7 b7
    go_wp2_with fail
    refine (natOf_any _ u0 HU0.out).mono ?_
    rintro e w8 ⟨v8, rfl, n8, b8⟩
    have N8 := Lib.hid n8
    have N7' := Lib.hid (N7.out.below b8)
    have N5a := Lib.hid (N5''.out.below b8)
    have B8 := Lib.hid (below_trans' B7.out b8)
    clear n8 b8
    go_wp2_with fail
    refine (natAdd 4 (by omega) N7'.out N8.out (by have := HVAL2.out; have := HP.out; omega) (Nat.lt_of_lt_of_le HU0.out (by decide))).mono ?_
    rintro e w9 ⟨v9, rfl, n9, b9⟩
    rw [HVAL2.out] at n9
    have N9 := Lib.hid n9
    have N5b := Lib.hid (N5a.out.below b9)
    have B9 := Lib.hid (below_trans' B8.out b9)
    clear n9 b9
    go_wp2_with fail
    refine (natCmp 4 (by omega) N5b.out N9.out HP.out HP.out).mono ?_
    rintro e w10 ⟨rfl, rfl⟩
    rw [cmpI_self]
    go_wp2_with fail
    go_ret
    exact ⟨rfl, B9.out⟩
end Go.Proofs.Ythbdijmoohfomaa.SF
