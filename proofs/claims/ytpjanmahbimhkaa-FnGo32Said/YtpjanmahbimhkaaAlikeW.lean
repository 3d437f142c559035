/-
  The walk through the laws' own 'alike'.
-/
import Derived.Test.YtpjanmahbimhkaaFmt
import Derived.Test.YtpjanmahbimhkaaRn
namespace Go.Proofs.Ytpjanmahbimhkaa.SF
open Go.ChangeShapes Go.WideShapes Go.ChangeAt Go.RowKit
set_option linter.unusedVariables false

set_option maxRecDepth 100000 in
theorem alike64_any (a b : Nat) (w : World) (ha : a < 18446744073709551616) (hb : b < 18446744073709551616) : Calls Try.prog 40 #[.agg #[.int .i64 53, .int .i64 52, .int .i64 (-1074), .int .u64 2047, .int .u64 9223372036854775808], .int .u64 (a : Int), .int .u64 (b : Int)] w (RetB (.bool (alikeB64 a b)) w) := by
  have HA := Lib.hid fun w => fnan64_any a w ha
  have HB := Lib.hid fun w => fnan64_any b w hb
  have HS := Lib.hid (FB64.start0 w)
  unfold alikeB64
  clear ha hb
  by_cases hab : a = b
  · have e : ((a : Int) == (b : Int)) = true := by simp [hab]
    rw [decide_eq_true hab, Bool.true_or]
    clear hab
    go_enter Try.func40, Try.ntmps40
    go_wp2_with fail
    go_ret
    exact ⟨rfl, (Below.refl _ _).alloc (Nat.le_refl _) _⟩
  · have e : ((a : Int) == (b : Int)) = false := beq_eq_false_iff_ne.mpr (by omega)
    rw [decide_eq_false hab, Bool.false_or]
    clear hab
    generalize isNaN64 a = na at *
    generalize isNaN64 b = nb at *
    cases na
    · go_enter Try.func40, Try.ntmps40
      go_wp2_with fail
      refine (HA.out _).mono ?_
      rintro e w1 ⟨rfl, hb⟩
      have HS1 := Lib.hid (FB64.step HS.out hb)
      clear hb
      go_wp2_with fail
      go_ret
      exact ⟨rfl, FB64.below HS1.out⟩
    · go_enter Try.func40, Try.ntmps40
      go_wp2_with fail
      refine (HA.out _).mono ?_
      rintro e w1 ⟨rfl, hb⟩
      have hs := FB64.step HS.out hb
      have HS1 := Lib.hid hs
      clear hb
      obtain ⟨c0, c1, c2, c3, c4, c5, c6⟩ := hs
      clear c5 c6
      go_wp2_with fail
      refine (HB.out _).mono ?_
      rintro e w2 ⟨rfl, hb⟩
      have HS2 := Lib.hid (FB64.step HS1.out hb)
      clear hb c0 c1 c2 c3 c4
      go_wp2_with fail
      go_ret
      exact ⟨rfl, FB64.below HS2.out⟩
set_option maxRecDepth 100000 in
theorem alike32_any (a b : Nat) (w : World) (ha : a < 4294967296) (hb : b < 4294967296) : Calls Try.prog 40 #[.agg #[.int .i64 24, .int .i64 23, .int .i64 (-149), .int .u64 255, .int .u64 2147483648], .int .u64 (a : Int), .int .u64 (b : Int)] w (RetB (.bool (alikeB32 a b)) w) := by
  have HA := Lib.hid fun w => fnan32_any a w ha
  have HB := Lib.hid fun w => fnan32_any b w hb
  have HS := Lib.hid (FB32.start0 w)
  unfold alikeB32
  clear ha hb
  by_cases hab : a = b
  · have e : ((a : Int) == (b : Int)) = true := by simp [hab]
    rw [decide_eq_true hab, Bool.true_or]
    clear hab
    go_enter Try.func40, Try.ntmps40
    go_wp2_with fail
    go_ret
    exact ⟨rfl, (Below.refl _ _).alloc (Nat.le_refl _) _⟩
  · have e : ((a : Int) == (b : Int)) = false := beq_eq_false_iff_ne.mpr (by omega)
    rw [decide_eq_false hab, Bool.false_or]
    clear hab
    generalize isNaN32 a = na at *
    generalize isNaN32 b = nb at *
    cases na
    · go_enter Try.func40, Try.ntmps40
      go_wp2_with fail
      refine (HA.out _).mono ?_
      rintro e w1 ⟨rfl, hb⟩
      have HS1 := Lib.hid (FB32.step HS.out hb)
      clear hb
      go_wp2_with fail
      go_ret
      exact ⟨rfl, FB32.below HS1.out⟩
    · go_enter Try.func40, Try.ntmps40
      go_wp2_with fail
      refine (HA.out _).mono ?_
      rintro e w1 ⟨rfl, hb⟩
      have hs := FB32.step HS.out hb
      have HS1 := Lib.hid hs
      clear hb
      obtain ⟨c0, c1, c2, c3, c4, c5, c6⟩ := hs
      clear c5 c6
      go_wp2_with fail
      refine (HB.out _).mono ?_
      rintro e w2 ⟨rfl, hb⟩
      have HS2 := Lib.hid (FB32.step HS1.out hb)
      clear hb c0 c1 c2 c3 c4
      go_wp2_with fail
      go_ret
      exact ⟨rfl, FB32.below HS2.out⟩
end Go.Proofs.Ytpjanmahbimhkaa.SF
