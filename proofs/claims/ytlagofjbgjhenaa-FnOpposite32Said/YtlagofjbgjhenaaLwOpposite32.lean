/-
  The walk of a law.
-/
import Derived.Test.YtlagofjbgjhenaaWrap
import Derived.Test.YtlagofjbgjhenaaAlikeW
import Derived.Test.YtlagofjbgjhenaaFmtB
import Derived.Test.YtlagofjbgjhenaaFrame
import Derived.Test.YtlagofjbgjhenaaWrap32
import Derived.Test.YtlagofjbgjhenaaAlg
namespace Go.Proofs.Ytlagofjbgjhenaa.SF
open Go.ChangeShapes Go.WideShapes Go.ChangeAt Go.RowKit
set_option linter.unusedVariables false
set_option maxRecDepth 100000 in
set_option maxHeartbeats 4000000 in
theorem fnOpposite32 (x : Nat) (w : World) (hx : x < 4294967296) : Calls Try.prog 10 #[.int .u32 (x : Int)] w (LawPost w) := by
  have A1 := fun w => implAdd32 x (flip32 x) w hx (flip_lt32 x)
  have A2 := fun w => implAdd32 x 2147483648 w hx (by omega)
  have FI := fun w => ffin32_any x w hx
  have f := xor_flip132 hx
  have la := add_lt32 hx (flip_lt32 x)
  have cx : IntKind.u64.wrap (x : Int) = (x : Int) := wrap_u64_nat (by omega)
  cases hf : fin32 x
  · have NA := fun w => fnan32_any (add32 x (flip32 x)) w la
    rw [add_flip_not32 hf] at NA
    rw [hf] at FI
    generalize add32 x (flip32 x) = s at *
    generalize flip32 x = g at *
    have cs : IntKind.u64.wrap (s : Int) = (s : Int) := wrap_u64_nat (by omega)
    have A1 := Lib.hid A1
    have NA := Lib.hid NA
    have FI := Lib.hid FI
    clear hx la A2 hf
    have B0 := Lib.hid (Below.refl w.heap.size w)
    go_enter Try.func10, Try.ntmps10
    go_wp2_with fail
    refine (A1.out _).mono ?_
    rintro e w' ⟨rfl, rfl⟩
    go_wp2_with fail
    refine (fmt32_any _).mono ?_
    rintro e u1 ⟨rfl, hb⟩
    have B1 := Lib.hid (below_trans' B0.out hb)
    clear hb
    go_wp2_with fail
    refine (FI.out _).mono ?_
    rintro e u2 ⟨rfl, hb⟩
    have B2 := Lib.hid (below_trans' B1.out hb)
    clear hb
    go_wp2_with fail
    refine (fmt32_any _).mono ?_
    rintro e u3 ⟨rfl, hb⟩
    have B3 := Lib.hid (below_trans' B2.out hb)
    clear hb
    go_wp2_with fail
    refine (NA.out _).mono ?_
    rintro e u4 ⟨rfl, hb⟩
    have B4 := Lib.hid (below_trans' B3.out hb)
    clear hb
    go_wp2_with fail
    go_ret
    exact ⟨rfl, B4.out⟩
  · rw [add_flip_fin32 hf] at A1
    rw [add_nz32 hx (fin_nan32 hf).1] at A2
    rw [hf] at FI
    generalize flip32 x = g at *
    have A1 := Lib.hid A1
    have A2 := Lib.hid A2
    have FI := Lib.hid FI
    clear hx la hf
    have B0 := Lib.hid (Below.refl w.heap.size w)
    go_enter Try.func10, Try.ntmps10
    go_wp2_with fail
    refine (A1.out _).mono ?_
    rintro e w' ⟨rfl, rfl⟩
    go_wp2_with fail
    refine (fmt32_any _).mono ?_
    rintro e u1 ⟨rfl, hb⟩
    have B1 := Lib.hid (below_trans' B0.out hb)
    clear hb
    go_wp2_with fail
    refine (FI.out _).mono ?_
    rintro e u2 ⟨rfl, hb⟩
    have B2 := Lib.hid (below_trans' B1.out hb)
    clear hb
    go_wp2_with fail
    refine (A2.out _).mono ?_
    rintro e w' ⟨rfl, rfl⟩
    go_wp2_with fail
    go_ret
    exact ⟨rfl, B2.out⟩
end Go.Proofs.Ytlagofjbgjhenaa.SF
