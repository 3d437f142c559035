/-
  The walk of a law.
-/
import Derived.Test.YtpjanmahbimhkaaWrapI
import Derived.Test.YtpjanmahbimhkaaFuW
import Derived.Test.YtpjanmahbimhkaaWrap
import Derived.Test.YtpjanmahbimhkaaFrame
namespace Go.Proofs.Ytpjanmahbimhkaa.SF
open Go.ChangeShapes Go.WideShapes Go.ChangeAt Go.RowKit
set_option linter.unusedVariables false
set_option maxRecDepth 100000 in
set_option maxHeartbeats 4000000 in
theorem fnNegInt (n : Int) (w : World) (hn : -9223372036854775808 ≤ n ∧ n ≤ 9223372036854775807) : Calls Try.prog 8 #[.int .i64 n] w (LawPost w) := by
  by_cases h0 : n = 0
  · subst h0
    have B0 := Lib.hid (Below.refl w.heap.size w)
    go_enter Try.func8, Try.ntmps8
    go_wp2_with fail
    go_ret
    exact ⟨rfl, B0.out⟩
  · have d0 : (n == 0) = false := beq_eq_false_iff_ne.mpr h0
    by_cases h1 : n = -9223372036854775808
    · have c1 : IntKind.i64.wrap (-n) = n := by rw [h1]; decide
      clear h1 hn h0
      have B0 := Lib.hid (Below.refl w.heap.size w)
      go_enter Try.func8, Try.ntmps8
      go_wp2_with fail
      go_ret
      exact ⟨rfl, B0.out⟩
    · have c1 : IntKind.i64.wrap (-n) = -n := IntWalk.i64_in _ (by omega)
      have d1 : (n == -n) = false := beq_eq_false_iff_ne.mpr (by omega)
      have I1 := fun w => implFromInt64 n w hn
      have I2 := fun w => implFromInt64 (-n) w (by omega)
      have J1 := fun w => implFromInt64To32 n w hn
      have J2 := fun w => implFromInt64To32 (-n) w (by omega)
      have e1 : fromN64 (decide (n < 0)) n.natAbs = fromS64 n := rfl
      have e2 : fromN64 (decide (-n < 0)) (-n).natAbs = flip64 (fromS64 n) := from_neg64 h0
      have e3 : fromN32 (decide (n < 0)) n.natAbs = fromS32 n := rfl
      have e4 : fromN32 (decide (-n < 0)) (-n).natAbs = flip32 (fromS32 n) := from_neg32 h0
      rw [e1] at I1
      rw [e2] at I2
      rw [e3] at J1
      rw [e4] at J2
      have N1 := fun w => implNeg64 (fromS64 n) w (fromS_lt64 n)
      have fx := xor_flip132 (fromS_lt32 n)
      generalize flip64 (fromS64 n) = f64 at *
      generalize fromS64 n = r64 at *
      generalize flip32 (fromS32 n) = f32 at *
      generalize fromS32 n = r32 at *
      have I1 := Lib.hid I1
      have I2 := Lib.hid I2
      have J1 := Lib.hid J1
      have J2 := Lib.hid J2
      have N1 := Lib.hid N1
      clear hn e1 e2 e3 e4 h0 h1
      have B0 := Lib.hid (Below.refl w.heap.size w)
      go_enter Try.func8, Try.ntmps8
      go_wp2_with fail
      refine (I2.out _).mono ?_
      rintro e w' ⟨rfl, rfl⟩
      go_wp2_with fail
      refine (I1.out _).mono ?_
      rintro e w' ⟨rfl, rfl⟩
      go_wp2_with fail
      refine (N1.out _).mono ?_
      rintro e w' ⟨rfl, rfl⟩
      go_wp2_with fail
      refine (J2.out _).mono ?_
      rintro e w' ⟨rfl, rfl⟩
      go_wp2_with fail
      refine (J1.out _).mono ?_
      rintro e w' ⟨rfl, rfl⟩
      go_wp2_with fail
      go_ret
      exact ⟨rfl, B0.out⟩
end Go.Proofs.Ytpjanmahbimhkaa.SF
