/-
  The walk of a law.
-/
import Derived.Test.YtlagofjbgjhenaaWrap
import Derived.Test.YtlagofjbgjhenaaAlikeW
import Derived.Test.YtlagofjbgjhenaaFmtB
import Derived.Test.YtlagofjbgjhenaaFrame
import Derived.Test.YtlagofjbgjhenaaAlgB
namespace Go.Proofs.Ytlagofjbgjhenaa.SF
open Go.ChangeShapes Go.WideShapes Go.ChangeAt Go.RowKit
set_option linter.unusedVariables false
set_option maxRecDepth 100000 in
set_option maxHeartbeats 4000000 in
theorem fnSubAdd (x : Nat) (y : Nat) (w : World) (hx : x < 18446744073709551616) (hy : y < 18446744073709551616) : Calls Try.prog 9 #[.int .u64 (x : Int), .int .u64 (y : Int)] w (LawPost w) := by
  have ly := flip_lt64 y
  have S1 := fun w => implSub64 x y w hx hy
  have N1 := fun w => implNeg64 y w hy
  have A1 := fun w => implAdd64 x (flip64 y) w hx ly
  have lr := add_lt64 hx ly
  have L1 := fun w => alike64_any (add64 x (flip64 y)) (add64 x (flip64 y)) w lr lr
  rw [alike_self64] at L1
  have C : Hid (∀ w, Calls Try.prog 23 #[.int .u64 4611686018427387904, .int .u64 4607182418800017408] w (RetW (.int .u64 4607182418800017408) w)) := Lib.hid fun w => by
    have := implSub64 4611686018427387904 4607182418800017408 w (by omega) (by omega)
    rwa [sub_two_one64] at this
  generalize add64 x (flip64 y) = r at *
  generalize flip64 y = g at *
  have S1 := Lib.hid S1
  have N1 := Lib.hid N1
  have A1 := Lib.hid A1
  have L1 := Lib.hid L1
  clear hx hy lr ly
  have B0 := Lib.hid (Below.refl w.heap.size w)
  go_enter Try.func9, Try.ntmps9
  go_wp2_with fail
  refine (fmt64_any _).mono ?_
  rintro e u1 ⟨rfl, hb⟩
  have B1 := Lib.hid (below_trans' B0.out hb)
  clear hb
  go_wp2_with fail
  refine (S1.out _).mono ?_
  rintro e w' ⟨rfl, rfl⟩
  go_wp2_with fail
  refine (N1.out _).mono ?_
  rintro e w' ⟨rfl, rfl⟩
  go_wp2_with fail
  refine (A1.out _).mono ?_
  rintro e w' ⟨rfl, rfl⟩
  go_wp2_with fail
  refine (L1.out _).mono ?_
  rintro e u2 ⟨rfl, hb⟩
  have B2 := Lib.hid (below_trans' B1.out hb)
  clear hb
  go_wp2_with fail
  refine (C.out _).mono ?_
  rintro e w' ⟨rfl, rfl⟩
  go_wp2_with fail
  go_ret
  exact ⟨rfl, B2.out⟩
end Go.Proofs.Ytlagofjbgjhenaa.SF
