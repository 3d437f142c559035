/-
  The walk of a law.
-/
import Derived.Test.YtlagofjbgjhenaaWrap
import Derived.Test.YtlagofjbgjhenaaAlikeW
import Derived.Test.YtlagofjbgjhenaaFmtB
import Derived.Test.YtlagofjbgjhenaaFrame
import Derived.Test.YtlagofjbgjhenaaWrap32
import Derived.Test.YtlagofjbgjhenaaSpecDiv
namespace Go.Proofs.Ytlagofjbgjhenaa.SF
open Go.ChangeShapes Go.WideShapes Go.ChangeAt Go.RowKit
set_option linter.unusedVariables false
set_option maxRecDepth 100000 in
set_option maxHeartbeats 4000000 in
theorem fnExactDiv32 (x : Nat) (y : Nat) (w : World) (hx : x < 4294967296) (hy : y < 4294967296) : Calls Try.prog 13 #[.int .u32 (x : Int), .int .u32 (y : Int)] w (LawPost w) := by
  have SP := fun w => fdivS32_any x y w hx hy
  have IM := fun w => implDiv32 x y w hx hy
  have lr := div_lt32 x y
  have cx : IntKind.u64.wrap (x : Int) = (x : Int) := wrap_u64_nat (by omega)
  have cy : IntKind.u64.wrap (y : Int) = (y : Int) := wrap_u64_nat (by omega)
  cases hn : nanDiv32 x y
  · rw [hn] at SP
    simp only [Bool.false_eq_true, if_false, Bool.not_false] at SP
    generalize div32 x y = r at *
    have cr : IntKind.u64.wrap (r : Int) = (r : Int) := wrap_u64_nat (by omega)
    have SP := Lib.hid SP
    have IM := Lib.hid IM
    clear hx hy hn lr
    have B0 := Lib.hid (Below.refl w.heap.size w)
    go_enter Try.func13, Try.ntmps13
    go_wp2_with fail
    refine (fmt32_any _).mono ?_
    rintro e u1 ⟨rfl, hb⟩
    have B1 := Lib.hid (below_trans' B0.out hb)
    clear hb
    go_wp2_with fail
    refine (SP.out _).mono ?_
    rintro e u2 ⟨rfl, hb⟩
    have B2 := Lib.hid (below_trans' B1.out hb)
    clear hb
    go_wp2_with fail
    refine (IM.out _).mono ?_
    rintro e w' ⟨rfl, rfl⟩
    go_wp2_with fail
    go_ret
    exact ⟨rfl, B2.out⟩
  · have hq : isNaN32 (div32 x y) = true := by
      have e : div32 x y = 2143289344 := if_pos hn
      rw [e]; exact nq_nan32
    have NA := fun w => fnan32_any (div32 x y) w lr
    rw [hq] at NA
    rw [hn] at SP
    simp only [if_true, Bool.not_true] at SP
    generalize div32 x y = r at *
    have cr : IntKind.u64.wrap (r : Int) = (r : Int) := wrap_u64_nat (by omega)
    have SP := Lib.hid SP
    have IM := Lib.hid IM
    have NA := Lib.hid NA
    clear hx hy hn lr hq
    have B0 := Lib.hid (Below.refl w.heap.size w)
    go_enter Try.func13, Try.ntmps13
    go_wp2_with fail
    refine (fmt32_any _).mono ?_
    rintro e u1 ⟨rfl, hb⟩
    have B1 := Lib.hid (below_trans' B0.out hb)
    clear hb
    go_wp2_with fail
    refine (SP.out _).mono ?_
    rintro e u2 ⟨rfl, hb⟩
    have B2 := Lib.hid (below_trans' B1.out hb)
    clear hb
    go_wp2_with fail
    refine (IM.out _).mono ?_
    rintro e w' ⟨rfl, rfl⟩
    go_wp2_with fail
    refine (fmt32_any _).mono ?_
    rintro e u3 ⟨rfl, hb⟩
    have B3 := Lib.hid (below_trans' B2.out hb)
    clear hb
    go_wp2_with fail
    refine (NA.out _).mono ?_
    rintro e u4 ⟨rfl, hb⟩
    have B4 := Lib.hid (below_trans' B3.out hb)
    clear hb
    go_wp2_with fail
    go_ret
    exact ⟨rfl, B4.out⟩
end Go.Proofs.Ytlagofjbgjhenaa.SF
