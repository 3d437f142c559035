/-
  The walk of a law.
-/
import Derived.Test.YtignbdajgnnlpaaSpecF
import Derived.Test.YtignbdajgnnlpaaFuW
import Derived.Test.YtignbdajgnnlpaaFrame
import Derived.Test.YtignbdajgnnlpaaFmtB
namespace Go.Proofs.Ytignbdajgnnlpaa.SF
open Go.ChangeShapes Go.WideShapes Go.ChangeAt Go.RowKit
set_option linter.unusedVariables false
set_option maxRecDepth 100000 in
set_option maxHeartbeats 4000000 in
theorem fnExactFromUint (n : Nat) (w : World) (hn : n < 18446744073709551616) : Calls Try.prog 12 #[.int .u64 (n : Int)] w (LawPost w) := by
  have SP := Lib.hid fun w => ffromU64_any n w hn
  have I1 := Lib.hid fun w => implFromUint64 n w hn
  generalize fromN64 false n = r at *
  clear hn
  have B0 := Lib.hid (Below.refl w.heap.size w)
  go_enter Try.func12, Try.ntmps12
  go_wp2_with fail
  refine (I1.out _).mono ?_
  rintro e w' ⟨rfl, rfl⟩
  go_wp2_with fail
  refine (fmt64_any _).mono ?_
  rintro e u1 ⟨rfl, hb⟩
  have B1 := Lib.hid (below_trans' B0.out hb)
  clear hb
  go_wp2_with fail
  refine (SP.out _).mono ?_
  rintro e u2 ⟨rfl, hb⟩
  have B2 := Lib.hid (below_trans' B1.out hb)
  clear hb
  go_wp2_with fail
  go_ret
  exact ⟨rfl, B2.out⟩
end Go.Proofs.Ytignbdajgnnlpaa.SF
