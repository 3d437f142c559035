/-
  The conversions of whole numbers to 32 bits, and of numbers without a sign.
-/
import Derived.Test.YtignbdajgnnlpaaIntW32
import Derived.Test.YtignbdajgnnlpaaWrapI
import Derived.Test.YtignbdajgnnlpaaToUP
import Derived.Test.YtignbdajgnnlpaaWrap32
namespace Go.Proofs.Ytignbdajgnnlpaa.SF
open Go.ChangeShapes Go.WideShapes Go.ChangeAt Go.RowKit
set_option linter.unusedVariables false
set_option maxRecDepth 100000 in
theorem implFromIntTo32 (n : Int) (w : World) (hn : -9223372036854775808 ≤ n ∧ n ≤ 9223372036854775807) : Calls Try.prog 27 #[.int .i64 n] w (RetW (.int .u32 ((fromN32 (decide (n < 0)) n.natAbs : Nat) : Int)) w) := by
  have H := Lib.hid (fintto32_ret n w hn)
  generalize fromN32 (decide (n < 0)) n.natAbs = c at *
  clear hn
  go_enter Try.func27, Try.ntmps27
  go_wp2_with (first | (go_at_call 69; refine (H.out).mono ?_; rintro e w' ⟨rfl, rfl⟩) | go_in)
  go_ret
  exact ⟨rfl, rfl⟩
set_option maxRecDepth 100000 in
theorem implFromInt64To32 (n : Int) (w : World) (hn : -9223372036854775808 ≤ n ∧ n ≤ 9223372036854775807) : Calls Try.prog 28 #[.int .i64 n] w (RetW (.int .u32 ((fromN32 (decide (n < 0)) n.natAbs : Nat) : Int)) w) := by
  have H := Lib.hid (fintto32_ret n w hn)
  generalize fromN32 (decide (n < 0)) n.natAbs = c at *
  clear hn
  go_enter Try.func28, Try.ntmps28
  go_wp2_with (first | (go_at_call 69; refine (H.out).mono ?_; rintro e w' ⟨rfl, rfl⟩) | go_in)
  go_ret
  exact ⟨rfl, rfl⟩
set_option maxRecDepth 100000 in
theorem implFromInt32To32 (n : Int) (w : World) (hn : -2147483648 ≤ n ∧ n ≤ 2147483647) : Calls Try.prog 30 #[.int .i32 n] w (RetW (.int .u32 ((fromN32 (decide (n < 0)) n.natAbs : Nat) : Int)) w) := by
  have H := Lib.hid (fintto32_ret n w (by omega))
  have cw : IntKind.i64.wrap n = n := IntWalk.i64_in _ (by omega)
  generalize fromN32 (decide (n < 0)) n.natAbs = c at *
  clear hn
  go_enter Try.func30, Try.ntmps30
  go_wp2_with (first | (go_at_call 69; refine (H.out).mono ?_; rintro e w' ⟨rfl, rfl⟩) | go_in)
  go_ret
  exact ⟨rfl, rfl⟩
set_option maxRecDepth 100000 in
theorem fuint64to64_ret (x : Nat) (w : World) (hx : x < 18446744073709551616) : Calls Try.prog 73 #[.int .u64 (x : Int)] w (RetW (.int .u64 ((fromN64 false x : Nat) : Int)) w) := by
  by_cases h63 : x < 9223372036854775808
  · have H := fintto64_ret (x : Int) w (by omega)
    rw [decide_eq_false (show ¬ ((x : Int) < 0) by omega), Int.natAbs_natCast] at H
    have c1 : IntKind.i64.wrap (x : Int) = (x : Int) := IntWalk.i64_in _ (by omega)
    have d1 : decide (0 ≤ (x : Int)) = true := decide_eq_true (by omega)
    generalize fromN64 false x = R at *
    have H := Lib.hid H
    clear hx h63
    go_enter Try.func73, Try.ntmps73
    go_wp2_with (first | (go_at_call 83; refine (H.out).mono ?_; rintro e w' ⟨rfl, rfl⟩) | go_in)
    go_ret
    exact ⟨rfl, rfl⟩
  · obtain ⟨b1, b2⟩ := half1_bd (show 9223372036854775808 ≤ x by omega) hx
    have H := fintto64_ret ((half1 x : Nat) : Int) w (by omega)
    rw [decide_eq_false (show ¬ (((half1 x : Nat) : Int) < 0) by omega), Int.natAbs_natCast] at H
    have HA := fadd64_ret (fromN64 false (half1 x)) (fromN64 false (half1 x)) w (fromN_lt64 _ _) (fromN_lt64 _ _)
    rw [from_half64 (show 9223372036854775808 ≤ x by omega) hx] at HA
    obtain ⟨xi, c1, hxi⟩ : ∃ xi : Int, IntKind.i64.wrap (x : Int) = xi ∧ xi < 0 := by
      refine ⟨_, rfl, ?_⟩
      rw [IntKind.wrap_i64]
      omega
    have d1 : decide (0 ≤ xi) = false := decide_eq_false (by omega)
    have e1 : bits .and .u64 (x : Int) 1 = ((x % 2 : Nat) : Int) := and_one .u64 x (.inl rfl) hx
    have e2 : (x : Int) / 2 = ((x / 2 : Nat) : Int) := by omega
    have e3 := or_half hx
    have c2 : IntKind.i64.wrap ((half1 x : Nat) : Int) = ((half1 x : Nat) : Int) := IntWalk.i64_in _ (by omega)
    generalize fromN64 false x = R at *
    generalize fromN64 false (half1 x) = r at *
    generalize half1 x = z at *
    generalize x % 2 = x2 at *
    generalize x / 2 = xh at *
    have H := Lib.hid H
    have HA := Lib.hid HA
    clear hx h63 b1 b2 hxi
    go_enter Try.func73, Try.ntmps73
    go_wp2_with (first | (go_at_call 83; refine (H.out).mono ?_; rintro e w' ⟨rfl, rfl⟩) | (go_at_call 78; refine (HA.out).mono ?_; rintro e w' ⟨rfl, rfl⟩) | go_in)
    go_ret
    exact ⟨rfl, rfl⟩
set_option maxRecDepth 100000 in
theorem implFromUint64 (x : Nat) (w : World) (hx : x < 18446744073709551616) : Calls Try.prog 31 #[.int .u64 (x : Int)] w (RetW (.int .u64 ((fromN64 false x : Nat) : Int)) w) := by
  have H := Lib.hid (fuint64to64_ret x w hx)
  generalize fromN64 false x = c at *
  clear hx
  go_enter Try.func31, Try.ntmps31
  go_wp2_with (first | (go_at_call 73; refine (H.out).mono ?_; rintro e w' ⟨rfl, rfl⟩) | go_in)
  go_ret
  exact ⟨rfl, rfl⟩
set_option maxRecDepth 100000 in
theorem fuint64to32_ret (x : Nat) (w : World) (hx : x < 18446744073709551616) : Calls Try.prog 74 #[.int .u64 (x : Int)] w (RetW (.int .u32 ((fromN32 false x : Nat) : Int)) w) := by
  by_cases h63 : x < 9223372036854775808
  · have H := fintto32_ret (x : Int) w (by omega)
    rw [decide_eq_false (show ¬ ((x : Int) < 0) by omega), Int.natAbs_natCast] at H
    have c1 : IntKind.i64.wrap (x : Int) = (x : Int) := IntWalk.i64_in _ (by omega)
    have d1 : decide (0 ≤ (x : Int)) = true := decide_eq_true (by omega)
    generalize fromN32 false x = R at *
    have H := Lib.hid H
    clear hx h63
    go_enter Try.func74, Try.ntmps74
    go_wp2_with (first | (go_at_call 69; refine (H.out).mono ?_; rintro e w' ⟨rfl, rfl⟩) | go_in)
    go_ret
    exact ⟨rfl, rfl⟩
  · obtain ⟨b1, b2⟩ := half1_bd (show 9223372036854775808 ≤ x by omega) hx
    have H := fintto32_ret ((half1 x : Nat) : Int) w (by omega)
    rw [decide_eq_false (show ¬ (((half1 x : Nat) : Int) < 0) by omega), Int.natAbs_natCast] at H
    have HA := fadd32_ret (fromN32 false (half1 x)) (fromN32 false (half1 x)) w (fromN_lt32 _ _) (fromN_lt32 _ _)
    rw [from_half32 (show 9223372036854775808 ≤ x by omega) hx] at HA
    obtain ⟨xi, c1, hxi⟩ : ∃ xi : Int, IntKind.i64.wrap (x : Int) = xi ∧ xi < 0 := by
      refine ⟨_, rfl, ?_⟩
      rw [IntKind.wrap_i64]
      omega
    have d1 : decide (0 ≤ xi) = false := decide_eq_false (by omega)
    have e1 : bits .and .u64 (x : Int) 1 = ((x % 2 : Nat) : Int) := and_one .u64 x (.inl rfl) hx
    have e2 : (x : Int) / 2 = ((x / 2 : Nat) : Int) := by omega
    have e3 := or_half hx
    have c2 : IntKind.i64.wrap ((half1 x : Nat) : Int) = ((half1 x : Nat) : Int) := IntWalk.i64_in _ (by omega)
    generalize fromN32 false x = R at *
    generalize fromN32 false (half1 x) = r at *
    generalize half1 x = z at *
    generalize x % 2 = x2 at *
    generalize x / 2 = xh at *
    have H := Lib.hid H
    have HA := Lib.hid HA
    clear hx h63 b1 b2 hxi
    go_enter Try.func74, Try.ntmps74
    go_wp2_with (first | (go_at_call 69; refine (H.out).mono ?_; rintro e w' ⟨rfl, rfl⟩) | (go_at_call 80; refine (HA.out).mono ?_; rintro e w' ⟨rfl, rfl⟩) | go_in)
    go_ret
    exact ⟨rfl, rfl⟩
set_option maxRecDepth 100000 in
theorem implFromUint64To32 (x : Nat) (w : World) (hx : x < 18446744073709551616) : Calls Try.prog 33 #[.int .u64 (x : Int)] w (RetW (.int .u32 ((fromN32 false x : Nat) : Int)) w) := by
  have H := Lib.hid (fuint64to32_ret x w hx)
  generalize fromN32 false x = c at *
  clear hx
  go_enter Try.func33, Try.ntmps33
  go_wp2_with (first | (go_at_call 74; refine (H.out).mono ?_; rintro e w' ⟨rfl, rfl⟩) | go_in)
  go_ret
  exact ⟨rfl, rfl⟩
end Go.Proofs.Ytignbdajgnnlpaa.SF
