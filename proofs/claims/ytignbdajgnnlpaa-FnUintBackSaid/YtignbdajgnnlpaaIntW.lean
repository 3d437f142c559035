/-
  The walk through fintto64.
-/
import Derived.Test.YtignbdajgnnlpaaFromP
import Derived.Test.YtignbdajgnnlpaaPackR
namespace Go.Proofs.Ytignbdajgnnlpaa.SF
open Go.ChangeShapes Go.WideShapes Go.ChangeAt Go.RowKit
set_option linter.unusedVariables false

theorem int_pack64 (neg : Bool) (m : Nat) (w : World) (hm : m < 18446744073709551616) : Calls Try.prog 86 #[.int .u64 ((sgn64 neg 0 : Nat) : Int), .int .u64 (m : Int), .int .i64 52, .int .u64 0] w (RetW (.int .u64 ((fromN64 neg m : Nat) : Int)) w) := by
  rcases Nat.eq_zero_or_pos m with h0 | h0
  · subst h0
    rw [fromN_zero64]
    exact fpackZ64 neg 0 52 w
  · obtain ⟨t, ht⟩ : ∃ t : Nat, t = 1074 + 3000 := ⟨_, rfl⟩
    have hst : PSt64 4503599627370496 3000 (m * (2 ^ t * 1)) 1 m 0 t 52 := ⟨⟨fun _ => rfl, fun h => absurd rfl h⟩, by omega, fun h => absurd rfl h, hm, by omega⟩
    have h := fpackR64 neg m 0 52 _ 1 3000 t (m * 2 ^ 1074) 1 w h0 (by omega) (by omega) (by omega) (by omega) hst (by omega) (from_aux (m := m) (a := 1074) (b := 3000) (t := t) ht.symm)
    unfold fromN64
    exact h
set_option maxRecDepth 100000 in
theorem fintto64_ret (n : Int) (w : World) (hn : -9223372036854775808 ≤ n ∧ n ≤ 9223372036854775807) : Calls Try.prog 83 #[.int .i64 n] w (RetW (.int .u64 ((fromN64 (decide (n < 0)) n.natAbs : Nat) : Int)) w) := by
  have H := int_pack64 (decide (n < 0)) n.natAbs w (by omega)
  by_cases h0 : n < 0
  · have hd : decide (n < 0) = true := decide_eq_true h0
    rw [hd] at H ⊢
    have e1 : IntKind.u64.wrap n = ((18446744073709551616 - n.natAbs : Nat) : Int) := by rw [IntKind.wrap_u64]; omega
    have e2 : bits .and .u64 ((18446744073709551616 - n.natAbs : Nat) : Int) 9223372036854775808 = ((sgn64 true 0 : Nat) : Int) := by
      rw [unp_and164 (by omega)]
      unfold sb64 sgn64
      simp only [if_true]
      omega
    have e3 : IntKind.u64.wrap (-((18446744073709551616 - n.natAbs : Nat) : Int)) = (n.natAbs : Int) := by rw [IntKind.wrap_u64]; omega
    have e4 : (((sgn64 true 0 : Nat) : Int) != 0) = true := by decide
    generalize fromN64 true n.natAbs = R at *
    generalize sgn64 true 0 = s at *
    generalize 18446744073709551616 - n.natAbs = q at *
    generalize n.natAbs = m at *
    have H := Lib.hid H
    clear hn hd h0
    go_enter Try.func83, Try.ntmps83
    go_wp2_with fail
    refine (H.out).mono ?_
    rintro e w' ⟨rfl, rfl⟩
    go_wp2_with fail
    go_ret
    exact ⟨rfl, rfl⟩
  · have hd : decide (n < 0) = false := decide_eq_false h0
    rw [hd] at H ⊢
    have e1 : IntKind.u64.wrap n = (n.natAbs : Int) := by rw [IntKind.wrap_u64]; omega
    have e2 : bits .and .u64 (n.natAbs : Int) 9223372036854775808 = ((sgn64 false 0 : Nat) : Int) := by
      rw [unp_and164 (by omega)]
      unfold sb64 sgn64
      simp only [Bool.false_eq_true, if_false]
      omega
    have e4 : (((sgn64 false 0 : Nat) : Int) != 0) = false := by decide
    generalize fromN64 false n.natAbs = R at *
    generalize sgn64 false 0 = s at *
    generalize n.natAbs = m at *
    have H := Lib.hid H
    clear hn hd h0
    go_enter Try.func83, Try.ntmps83
    go_wp2_with fail
    refine (H.out).mono ?_
    rintro e w' ⟨rfl, rfl⟩
    go_wp2_with fail
    go_ret
    exact ⟨rfl, rfl⟩
end Go.Proofs.Ytignbdajgnnlpaa.SF
