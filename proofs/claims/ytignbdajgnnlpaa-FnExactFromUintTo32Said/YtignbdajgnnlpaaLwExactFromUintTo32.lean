/-
  The walk of a law.
-/
import Derived.Test.YtignbdajgnnlpaaSpecF
import Derived.Test.YtignbdajgnnlpaaFuW
import Derived.Test.YtignbdajgnnlpaaFrame
import Derived.Test.YtignbdajgnnlpaaFmtB
namespace Go.Proofs.Ytignbdajgnnlpaa.SF
open Go.ChangeShapes Go.WideShapes Go.ChangeAt Go.RowKit
set_option linter.unusedVariables false
set_option maxRecDepth 100000 in
set_option maxHeartbeats 4000000 in
theorem fnExactFromUintTo32 (n : Nat) (w : World) (hn : n < 18446744073709551616) : Calls Try.prog 13 #[.int .u64 (n : Int)] w (LawPost w) := by
  have SP := Lib.hid fun w => ffromU32_any n w hn
  have I1 := Lib.hid fun w => implFromUint64To32 n w hn
  have lr := fromN_lt32 false n
  generalize fromN32 false n = r at *
  have cr : IntKind.u64.wrap (r : Int) = (r : Int) := wrap_u64_nat (by omega)
  clear hn lr
  have B0 := Lib.hid (Below.refl w.heap.size w)
  go_enter Try.func13, Try.ntmps13
  go_wp2_with fail
  refine (I1.out _).mono ?_
  rintro e w' ⟨rfl, rfl⟩
  go_wp2_with fail
  refine (fmt32_any _).mono ?_
  rintro e u1 ⟨rfl, hb⟩
  have B1 := Lib.hid (below_trans' B0.out hb)
  clear hb
  go_wp2_with fail
  refine (SP.out _).mono ?_
  rintro e u2 ⟨rfl, hb⟩
  have B2 := Lib.hid (below_trans' B1.out hb)
  clear hb
  go_wp2_with fail
  go_ret
  exact ⟨rfl, B2.out⟩
end Go.Proofs.Ytignbdajgnnlpaa.SF
