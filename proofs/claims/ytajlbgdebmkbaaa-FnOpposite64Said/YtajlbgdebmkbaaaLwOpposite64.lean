/-
  The walk of a law.
-/
import Derived.Test.YtajlbgdebmkbaaaWrap
import Derived.Test.YtajlbgdebmkbaaaAlikeW
import Derived.Test.YtajlbgdebmkbaaaFmtB
import Derived.Test.YtajlbgdebmkbaaaFrame
import Derived.Test.YtajlbgdebmkbaaaAlg
namespace Go.Proofs.Ytajlbgdebmkbaaa.SF
open Go.ChangeShapes Go.WideShapes Go.ChangeAt Go.RowKit
set_option linter.unusedVariables false
set_option maxRecDepth 100000 in
set_option maxHeartbeats 4000000 in
theorem fnOpposite64 (x : Nat) (w : World) (hx : x < 18446744073709551616) : Calls Try.prog 8 #[.int .u64 (x : Int)] w (LawPost w) := by
  have A1 := fun w => implAdd64 x (flip64 x) w hx (flip_lt64 x)
  have A2 := fun w => implAdd64 x 9223372036854775808 w hx (by omega)
  have FI := fun w => ffin64_any x w hx
  have f := xor_flip164 hx
  have la := add_lt64 hx (flip_lt64 x)
  cases hf : fin64 x
  · have NA := fun w => fnan64_any (add64 x (flip64 x)) w la
    rw [add_flip_not64 hf] at NA
    rw [hf] at FI
    generalize add64 x (flip64 x) = s at *
    generalize flip64 x = g at *
    have A1 := Lib.hid A1
    have NA := Lib.hid NA
    have FI := Lib.hid FI
    clear hx la A2 hf
    have B0 := Lib.hid (Below.refl w.heap.size w)
    go_enter Try.func8, Try.ntmps8
    go_wp2_with fail
    refine (A1.out _).mono ?_
    rintro e w' ⟨rfl, rfl⟩
    go_wp2_with fail
    refine (fmt64_any _).mono ?_
    rintro e u1 ⟨rfl, hb⟩
    have B1 := Lib.hid (below_trans' B0.out hb)
    clear hb
    go_wp2_with fail
    refine (FI.out _).mono ?_
    rintro e u2 ⟨rfl, hb⟩
    have B2 := Lib.hid (below_trans' B1.out hb)
    clear hb
    go_wp2_with fail
    refine (fmt64_any _).mono ?_
    rintro e u3 ⟨rfl, hb⟩
    have B3 := Lib.hid (below_trans' B2.out hb)
    clear hb
    go_wp2_with fail
    refine (NA.out _).mono ?_
    rintro e u4 ⟨rfl, hb⟩
    have B4 := Lib.hid (below_trans' B3.out hb)
    clear hb
    go_wp2_with fail
    go_ret
    exact ⟨rfl, B4.out⟩
  · rw [add_flip_fin64 hf] at A1
    rw [add_nz64 hx (fin_nan64 hf).1] at A2
    rw [hf] at FI
    generalize flip64 x = g at *
    have A1 := Lib.hid A1
    have A2 := Lib.hid A2
    have FI := Lib.hid FI
    clear hx la hf
    have B0 := Lib.hid (Below.refl w.heap.size w)
    go_enter Try.func8, Try.ntmps8
    go_wp2_with fail
    refine (A1.out _).mono ?_
    rintro e w' ⟨rfl, rfl⟩
    go_wp2_with fail
    refine (fmt64_any _).mono ?_
    rintro e u1 ⟨rfl, hb⟩
    have B1 := Lib.hid (below_trans' B0.out hb)
    clear hb
    go_wp2_with fail
    refine (FI.out _).mono ?_
    rintro e u2 ⟨rfl, hb⟩
    have B2 := Lib.hid (below_trans' B1.out hb)
    clear hb
    go_wp2_with fail
    refine (A2.out _).mono ?_
    rintro e w' ⟨rfl, rfl⟩
    go_wp2_with fail
    go_ret
    exact ⟨rfl, B2.out⟩
end Go.Proofs.Ytajlbgdebmkbaaa.SF
