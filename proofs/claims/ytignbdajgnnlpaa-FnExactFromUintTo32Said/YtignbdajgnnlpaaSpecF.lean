/-
  The walks through the reference's FromInt, FromUint and Convert.
-/
import Derived.Test.YtignbdajgnnlpaaSpecR
import Derived.Test.YtignbdajgnnlpaaFromP
namespace Go.Proofs.Ytignbdajgnnlpaa.SF
open Go.ChangeShapes Go.WideShapes Go.ChangeAt Go.RowKit
set_option linter.unusedVariables false

theorem int_round64 (w : World) (neg : Bool) (va vb : Value) (N : Nat) (hN : N < 18446744073709551616) (ha : NatAt w va N) (hb : NatAt w vb 1) : Calls Try.prog 45 #[.agg #[.int .i64 53, .int .i64 52, .int .i64 (-1074), .int .u64 2047, .int .u64 9223372036854775808], .bool neg, va, vb, .int .i64 0] w (RetB (.int .u64 ((fromN64 neg N : Nat) : Int)) w) :=
  roundR64 w neg va vb N 1 4 0 (1074 : Nat) _ 1 (by omega) (by omega) (by omega) (by omega) ha hb (pow_lt_K (n := N) (k := 64) (K := 4) hN (by omega)) (one_lt_K (K := 4) (by omega)) (by omega) (by omega) (add_num (N := N) (lo := 1074) rfl)
set_option maxRecDepth 100000 in
theorem ffromU64_any (n : Nat) (w : World) (hn : n < 18446744073709551616) : Calls Try.prog 32 #[.agg #[.int .i64 53, .int .i64 52, .int .i64 (-1074), .int .u64 2047, .int .u64 9223372036854775808], .int .u64 (n : Int)] w (RetB (.int .u64 ((fromN64 false n : Nat) : Int)) w) := by
  have RR := Lib.hid fun (w : World) (va vb : Value) => int_round64 w false va vb n hn
  have HN := Lib.hid hn
  have HS := Lib.hid (FB64.start w)
  generalize fromN64 false n = R at *
  clear hn
  go_enter Try.func32, Try.ntmps32
  go_wp2_with fail
  go_region_held3 (fun w' => FB64 w w') (first | assumption | exact HS.out) (first | (go_at_call 37; (with_reducible refine (natOf_any _ n HN.out).mono ?_); rintro e a1 ⟨va, rfl, na, ba⟩; have hs := FB64.step (w := w) (by assumption) ba) | (go_at_call 46; (with_reducible refine (one_any _).mono ?_); rintro e a4 ⟨vd, rfl, nd, bd⟩; have na := na.below bd; have hs := FB64.step (w := w) (by assumption) bd) | (go_at_call 45; (with_reducible refine (RR.out _ _ _ na nd).mono ?_); rintro e a5 ⟨rfl, be⟩; have hs := FB64.step (w := w) (by assumption) be))
  go_wp2_with fail
  go_ret
  exact ⟨rfl, FB64.below (by assumption)⟩
set_option maxRecDepth 100000 in
theorem ffromI64_any (n : Int) (w : World) (hn : -9223372036854775808 ≤ n ∧ n ≤ 9223372036854775807) : Calls Try.prog 26 #[.agg #[.int .i64 53, .int .i64 52, .int .i64 (-1074), .int .u64 2047, .int .u64 9223372036854775808], .int .i64 n] w (RetB (.int .u64 ((fromN64 (decide (n < 0)) n.natAbs : Nat) : Int)) w) := by
  have hl : n.natAbs < 18446744073709551616 := by omega
  have RR := Lib.hid fun (w : World) (va vb : Value) => int_round64 w (decide (n < 0)) va vb n.natAbs hl
  have HN := Lib.hid hl
  have HS := Lib.hid (FB64.start w)
  have HSa := Lib.hid (FB64.start0 w)
  by_cases h0 : n < 0
  · have e1 : IntKind.u64.wrap n = n + 18446744073709551616 := by rw [IntKind.wrap_u64]; omega
    have e2 : IntKind.u64.wrap (-(n + 18446744073709551616)) = ((n.natAbs : Nat) : Int) := by rw [IntKind.wrap_u64]; omega
    have hd : decide (n < 0) = true := decide_eq_true h0
    rw [hd] at RR ⊢
    generalize fromN64 true n.natAbs = R at *
    generalize n.natAbs = N at *
    clear hn hl hd
    go_enter Try.func26, Try.ntmps26
    go_wp2_with fail
    go_region_held3 (fun w' => FB64 w w') (first | assumption | exact HS.out) (first | (go_at_call 37; (with_reducible refine (natOf_any _ N HN.out).mono ?_); rintro e a1 ⟨va, rfl, na, ba⟩; have hs := FB64.step (w := w) (by assumption) ba) | (go_at_call 46; (with_reducible refine (one_any _).mono ?_); rintro e a4 ⟨vd, rfl, nd, bd⟩; have na := na.below bd; have hs := FB64.step (w := w) (by assumption) bd) | (go_at_call 45; (with_reducible refine (RR.out _ _ _ na nd).mono ?_); rintro e a5 ⟨rfl, be⟩; have hs := FB64.step (w := w) (by assumption) be))
    go_wp2_with fail
    go_ret
    exact ⟨rfl, FB64.below (by assumption)⟩
  · have e1 : IntKind.u64.wrap n = ((n.natAbs : Nat) : Int) := by rw [IntKind.wrap_u64]; omega
    have hd : decide (n < 0) = false := decide_eq_false h0
    rw [hd] at RR ⊢
    generalize fromN64 false n.natAbs = R at *
    generalize n.natAbs = N at *
    clear hn hl hd
    go_enter Try.func26, Try.ntmps26
    go_wp2_with fail
    go_region_held3 (fun w' => FB64 w w') (first | assumption | exact HS.out) (first | (go_at_call 37; (with_reducible refine (natOf_any _ N HN.out).mono ?_); rintro e a1 ⟨va, rfl, na, ba⟩; have hs := FB64.step (w := w) (by assumption) ba) | (go_at_call 46; (with_reducible refine (one_any _).mono ?_); rintro e a4 ⟨vd, rfl, nd, bd⟩; have na := na.below bd; have hs := FB64.step (w := w) (by assumption) bd) | (go_at_call 45; (with_reducible refine (RR.out _ _ _ na nd).mono ?_); rintro e a5 ⟨rfl, be⟩; have hs := FB64.step (w := w) (by assumption) be))
    go_wp2_with fail
    go_ret
    exact ⟨rfl, FB64.below (by assumption)⟩
theorem int_round32 (w : World) (neg : Bool) (va vb : Value) (N : Nat) (hN : N < 18446744073709551616) (ha : NatAt w va N) (hb : NatAt w vb 1) : Calls Try.prog 45 #[.agg #[.int .i64 24, .int .i64 23, .int .i64 (-149), .int .u64 255, .int .u64 2147483648], .bool neg, va, vb, .int .i64 0] w (RetB (.int .u64 ((fromN32 neg N : Nat) : Int)) w) :=
  roundR32 w neg va vb N 1 4 0 (149 : Nat) _ 1 (by omega) (by omega) (by omega) (by omega) ha hb (pow_lt_K (n := N) (k := 64) (K := 4) hN (by omega)) (one_lt_K (K := 4) (by omega)) (by omega) (by omega) (add_num (N := N) (lo := 149) rfl)
set_option maxRecDepth 100000 in
theorem ffromU32_any (n : Nat) (w : World) (hn : n < 18446744073709551616) : Calls Try.prog 32 #[.agg #[.int .i64 24, .int .i64 23, .int .i64 (-149), .int .u64 255, .int .u64 2147483648], .int .u64 (n : Int)] w (RetB (.int .u64 ((fromN32 false n : Nat) : Int)) w) := by
  have RR := Lib.hid fun (w : World) (va vb : Value) => int_round32 w false va vb n hn
  have HN := Lib.hid hn
  have HS := Lib.hid (FB32.start w)
  generalize fromN32 false n = R at *
  clear hn
  go_enter Try.func32, Try.ntmps32
  go_wp2_with fail
  go_region_held3 (fun w' => FB32 w w') (first | assumption | exact HS.out) (first | (go_at_call 37; (with_reducible refine (natOf_any _ n HN.out).mono ?_); rintro e a1 ⟨va, rfl, na, ba⟩; have hs := FB32.step (w := w) (by assumption) ba) | (go_at_call 46; (with_reducible refine (one_any _).mono ?_); rintro e a4 ⟨vd, rfl, nd, bd⟩; have na := na.below bd; have hs := FB32.step (w := w) (by assumption) bd) | (go_at_call 45; (with_reducible refine (RR.out _ _ _ na nd).mono ?_); rintro e a5 ⟨rfl, be⟩; have hs := FB32.step (w := w) (by assumption) be))
  go_wp2_with fail
  go_ret
  exact ⟨rfl, FB32.below (by assumption)⟩
set_option maxRecDepth 100000 in
theorem ffromI32_any (n : Int) (w : World) (hn : -9223372036854775808 ≤ n ∧ n ≤ 9223372036854775807) : Calls Try.prog 26 #[.agg #[.int .i64 24, .int .i64 23, .int .i64 (-149), .int .u64 255, .int .u64 2147483648], .int .i64 n] w (RetB (.int .u64 ((fromN32 (decide (n < 0)) n.natAbs : Nat) : Int)) w) := by
  have hl : n.natAbs < 18446744073709551616 := by omega
  have RR := Lib.hid fun (w : World) (va vb : Value) => int_round32 w (decide (n < 0)) va vb n.natAbs hl
  have HN := Lib.hid hl
  have HS := Lib.hid (FB32.start w)
  have HSa := Lib.hid (FB32.start0 w)
  by_cases h0 : n < 0
  · have e1 : IntKind.u64.wrap n = n + 18446744073709551616 := by rw [IntKind.wrap_u64]; omega
    have e2 : IntKind.u64.wrap (-(n + 18446744073709551616)) = ((n.natAbs : Nat) : Int) := by rw [IntKind.wrap_u64]; omega
    have hd : decide (n < 0) = true := decide_eq_true h0
    rw [hd] at RR ⊢
    generalize fromN32 true n.natAbs = R at *
    generalize n.natAbs = N at *
    clear hn hl hd
    go_enter Try.func26, Try.ntmps26
    go_wp2_with fail
    go_region_held3 (fun w' => FB32 w w') (first | assumption | exact HS.out) (first | (go_at_call 37; (with_reducible refine (natOf_any _ N HN.out).mono ?_); rintro e a1 ⟨va, rfl, na, ba⟩; have hs := FB32.step (w := w) (by assumption) ba) | (go_at_call 46; (with_reducible refine (one_any _).mono ?_); rintro e a4 ⟨vd, rfl, nd, bd⟩; have na := na.below bd; have hs := FB32.step (w := w) (by assumption) bd) | (go_at_call 45; (with_reducible refine (RR.out _ _ _ na nd).mono ?_); rintro e a5 ⟨rfl, be⟩; have hs := FB32.step (w := w) (by assumption) be))
    go_wp2_with fail
    go_ret
    exact ⟨rfl, FB32.below (by assumption)⟩
  · have e1 : IntKind.u64.wrap n = ((n.natAbs : Nat) : Int) := by rw [IntKind.wrap_u64]; omega
    have hd : decide (n < 0) = false := decide_eq_false h0
    rw [hd] at RR ⊢
    generalize fromN32 false n.natAbs = R at *
    generalize n.natAbs = N at *
    clear hn hl hd
    go_enter Try.func26, Try.ntmps26
    go_wp2_with fail
    go_region_held3 (fun w' => FB32 w w') (first | assumption | exact HS.out) (first | (go_at_call 37; (with_reducible refine (natOf_any _ N HN.out).mono ?_); rintro e a1 ⟨va, rfl, na, ba⟩; have hs := FB32.step (w := w) (by assumption) ba) | (go_at_call 46; (with_reducible refine (one_any _).mono ?_); rintro e a4 ⟨vd, rfl, nd, bd⟩; have na := na.below bd; have hs := FB32.step (w := w) (by assumption) bd) | (go_at_call 45; (with_reducible refine (RR.out _ _ _ na nd).mono ?_); rintro e a5 ⟨rfl, be⟩; have hs := FB32.step (w := w) (by assumption) be))
    go_wp2_with fail
    go_ret
    exact ⟨rfl, FB32.below (by assumption)⟩
end Go.Proofs.Ytignbdajgnnlpaa.SF
