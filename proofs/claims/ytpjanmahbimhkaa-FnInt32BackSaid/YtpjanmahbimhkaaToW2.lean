/-
  The thin package's conversions to whole numbers.
-/
import Derived.Test.YtpjanmahbimhkaaToW
import Derived.Test.YtpjanmahbimhkaaToUP
import Derived.Test.YtpjanmahbimhkaaWrap32
import Derived.Test.YtpjanmahbimhkaaNarW
namespace Go.Proofs.Ytpjanmahbimhkaa.SF
open Go.ChangeShapes Go.WideShapes Go.ChangeAt Go.RowKit
set_option linter.unusedVariables false
set_option maxRecDepth 100000 in
theorem implToInt64 (x : Nat) (w : World) (hx : x < 18446744073709551616) : Calls Try.prog 14 #[.int .u64 (x : Int)] w (RetW (.int .i64 (tiV x)) w) := by
  have H := Lib.hid (f64toint_ret x w hx)
  generalize tiV x = v at *
  generalize tiB x = b at *
  clear hx
  go_enter Try.func14, Try.ntmps14
  go_wp2_with (first | (go_at_call 102; refine (H.out).mono ?_; rintro e w' ⟨rfl, rfl⟩) | go_in)
  go_ret
  exact ⟨rfl, rfl⟩
set_option maxRecDepth 100000 in
theorem implToInt32 (x : Nat) (w : World) (hx : x < 18446744073709551616) : Calls Try.prog 16 #[.int .u64 (x : Int)] w (RetW (.int .i32 (IntKind.i32.wrap (tiV x))) w) := by
  have H := Lib.hid (f64toint_ret x w hx)
  obtain ⟨u, hu⟩ : ∃ u, IntKind.i32.wrap (tiV x) = u := ⟨_, rfl⟩
  rw [hu]
  generalize tiV x = v at *
  generalize tiB x = b at *
  clear hx
  go_enter Try.func16, Try.ntmps16
  go_wp2_with (first | (go_at_call 102; refine (H.out).mono ?_; rintro e w' ⟨rfl, rfl⟩) | go_in)
  go_ret
  exact ⟨rfl, rfl⟩
end Go.Proofs.Ytpjanmahbimhkaa.SF
