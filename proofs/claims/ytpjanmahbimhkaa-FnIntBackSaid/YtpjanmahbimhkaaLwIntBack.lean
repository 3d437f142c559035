/-
  The walk of a law.
-/
import Derived.Test.YtpjanmahbimhkaaWrapI
import Derived.Test.YtpjanmahbimhkaaToW2
import Derived.Test.YtpjanmahbimhkaaFrame
namespace Go.Proofs.Ytpjanmahbimhkaa.SF
open Go.ChangeShapes Go.WideShapes Go.ChangeAt Go.RowKit
set_option linter.unusedVariables false
set_option maxRecDepth 100000 in
set_option maxHeartbeats 4000000 in
theorem fnIntBack (n : Int) (w : World) (hn : -9223372036854775808 ≤ n ∧ n ≤ 9223372036854775807) : Calls Try.prog 3 #[.int .i64 n] w (LawPost w) := by
  by_cases h1 : n < -9007199254740992
  · have d1 := decide_eq_true h1
    clear hn h1
    have B0 := Lib.hid (Below.refl w.heap.size w)
    go_enter Try.func3, Try.ntmps3
    go_wp2_with fail
    go_ret
    exact ⟨rfl, B0.out⟩
  · by_cases h2 : 9007199254740992 < n
    · have d1 := decide_eq_false h1
      have d2 := decide_eq_true h2
      clear hn h1 h2
      have B0 := Lib.hid (Below.refl w.heap.size w)
      go_enter Try.func3, Try.ntmps3
      go_wp2_with fail
      go_ret
      exact ⟨rfl, B0.out⟩
    · have d1 := decide_eq_false h1
      have d2 := decide_eq_false h2
      have I1 := fun w => implFromInt64 n w hn
      have I2 := fun w => implToInt64 (fromS64 n) w (fromS_lt64 n)
      rw [tiV_from (by omega)] at I2
      have e : fromN64 (decide (n < 0)) n.natAbs = fromS64 n := rfl
      rw [e] at I1
      generalize fromS64 n = r at *
      have I1 := Lib.hid I1
      have I2 := Lib.hid I2
      clear hn h1 h2 e
      have B0 := Lib.hid (Below.refl w.heap.size w)
      go_enter Try.func3, Try.ntmps3
      go_wp2_with fail
      refine (I1.out _).mono ?_
      rintro e w' ⟨rfl, rfl⟩
      go_wp2_with fail
      refine (I2.out _).mono ?_
      rintro e w' ⟨rfl, rfl⟩
      go_wp2_with fail
      go_ret
      exact ⟨rfl, B0.out⟩
end Go.Proofs.Ytpjanmahbimhkaa.SF
