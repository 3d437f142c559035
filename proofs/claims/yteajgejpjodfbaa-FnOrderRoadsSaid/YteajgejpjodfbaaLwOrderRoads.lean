/-
  The walk of a law.
-/
import Derived.Test.YteajgejpjodfbaaWrap
import Derived.Test.YteajgejpjodfbaaFrame
import Derived.Test.YteajgejpjodfbaaCmpK
namespace Go.Proofs.Yteajgejpjodfbaa.SF
open Go.ChangeShapes Go.WideShapes Go.ChangeAt Go.RowKit
set_option linter.unusedVariables false
set_option maxRecDepth 100000 in
set_option maxHeartbeats 4000000 in
theorem fnOrderRoads (x : Nat) (y : Nat) (w : World) (hx : x < 18446744073709551616) (hy : y < 18446744073709551616) : Calls Try.prog 12 #[.int .u64 (x : Int), .int .u64 (y : Int)] w (LawPost w) := by
  have C1 := fun w => implCmp64 x y w hx hy
  have C2 := fun w => implCmp64 y x w hy hx
  have GE := fun w => implGe64 x y w hx hy
  have GE2 := fun w => implGe64 y x w hy hx
  have EQ := fun w => implEq64 x y w hx hy
  have GT := fun w => implGt64 x y w hx hy
  have GT2 := fun w => implGt64 y x w hy hx
  unfold geB at GE GE2
  unfold eqB at EQ
  unfold gtB at GT GT2
  have e2 : cmpN y x = cmpN x y := by unfold cmpN; rw [Bool.or_comm]
  rw [e2] at C2 GE2 GT2
  cases hn : cmpN x y
  · have t1 : cmpR x y = ordI (key64 x) (key64 y) := by rw [← cmpF_key hx hy]; exact if_neg (by rw [hn]; decide)
    have t2 : cmpR y x = ordI (key64 y) (key64 x) := by rw [← cmpF_key hy hx]; exact if_neg (by rw [e2, hn]; decide)
    rw [cmp_turn, ← t1] at t2
    rw [t2] at C2 GE2 GT2
    have hc : cmpR x y = -1 ∨ cmpR x y = 0 ∨ cmpR x y = 1 := by rw [t1]; unfold ordI; split <;> (try split) <;> simp
    rw [hn] at C1 C2 GE GE2 EQ GT GT2
    clear t1 t2 e2 hn hx hy
    generalize cmpR x y = c at *
    rcases hc with rfl | rfl | rfl
    · simp at C1 C2 GE GE2 EQ GT GT2
      have C1 := Lib.hid C1
      have C2 := Lib.hid C2
      have GE := Lib.hid GE
      have GE2 := Lib.hid GE2
      have EQ := Lib.hid EQ
      have GT := Lib.hid GT
      have GT2 := Lib.hid GT2
      have B0 := Lib.hid (Below.refl w.heap.size w)
      go_enter Try.func12, Try.ntmps12
      go_wp2_with fail
      refine (C1.out _).mono ?_
      rintro e w' ⟨rfl, rfl⟩
      go_wp2_with fail
      refine (C2.out _).mono ?_
      rintro e w' ⟨rfl, rfl⟩
      go_wp2_with fail
      refine (EQ.out _).mono ?_
      rintro e w' ⟨rfl, rfl⟩
      go_wp2_with fail
      refine (GT.out _).mono ?_
      rintro e w' ⟨rfl, rfl⟩
      go_wp2_with fail
      refine (GE.out _).mono ?_
      rintro e w' ⟨rfl, rfl⟩
      go_wp2_with fail
      refine (GE.out _).mono ?_
      rintro e w' ⟨rfl, rfl⟩
      go_wp2_with fail
      refine (GT2.out _).mono ?_
      rintro e w' ⟨rfl, rfl⟩
      go_wp2_with fail
      go_ret
      exact ⟨rfl, B0.out⟩
    · simp at C1 C2 GE GE2 EQ GT GT2
      have C1 := Lib.hid C1
      have C2 := Lib.hid C2
      have GE := Lib.hid GE
      have GE2 := Lib.hid GE2
      have EQ := Lib.hid EQ
      have GT := Lib.hid GT
      have GT2 := Lib.hid GT2
      have B0 := Lib.hid (Below.refl w.heap.size w)
      go_enter Try.func12, Try.ntmps12
      go_wp2_with fail
      refine (C1.out _).mono ?_
      rintro e w' ⟨rfl, rfl⟩
      go_wp2_with fail
      refine (C2.out _).mono ?_
      rintro e w' ⟨rfl, rfl⟩
      go_wp2_with fail
      refine (EQ.out _).mono ?_
      rintro e w' ⟨rfl, rfl⟩
      go_wp2_with fail
      refine (GT.out _).mono ?_
      rintro e w' ⟨rfl, rfl⟩
      go_wp2_with fail
      refine (GE.out _).mono ?_
      rintro e w' ⟨rfl, rfl⟩
      go_wp2_with fail
      refine (GE.out _).mono ?_
      rintro e w' ⟨rfl, rfl⟩
      go_wp2_with fail
      go_ret
      exact ⟨rfl, B0.out⟩
    · simp at C1 C2 GE GE2 EQ GT GT2
      have C1 := Lib.hid C1
      have C2 := Lib.hid C2
      have GE := Lib.hid GE
      have GE2 := Lib.hid GE2
      have EQ := Lib.hid EQ
      have GT := Lib.hid GT
      have GT2 := Lib.hid GT2
      have B0 := Lib.hid (Below.refl w.heap.size w)
      go_enter Try.func12, Try.ntmps12
      go_wp2_with fail
      refine (C1.out _).mono ?_
      rintro e w' ⟨rfl, rfl⟩
      go_wp2_with fail
      refine (C2.out _).mono ?_
      rintro e w' ⟨rfl, rfl⟩
      go_wp2_with fail
      refine (EQ.out _).mono ?_
      rintro e w' ⟨rfl, rfl⟩
      go_wp2_with fail
      refine (GT.out _).mono ?_
      rintro e w' ⟨rfl, rfl⟩
      go_wp2_with fail
      refine (GE.out _).mono ?_
      rintro e w' ⟨rfl, rfl⟩
      go_wp2_with fail
      refine (GE.out _).mono ?_
      rintro e w' ⟨rfl, rfl⟩
      go_wp2_with fail
      go_ret
      exact ⟨rfl, B0.out⟩
  · rw [hn] at C1 C2 GE GE2
    simp at GE GE2
    generalize cmpR x y = c at *
    generalize cmpR y x = d at *
    have C1 := Lib.hid C1
    have C2 := Lib.hid C2
    have GE := Lib.hid GE
    have GE2 := Lib.hid GE2
    clear hx hy EQ GT GT2 e2 hn
    have B0 := Lib.hid (Below.refl w.heap.size w)
    go_enter Try.func12, Try.ntmps12
    go_wp2_with fail
    refine (C1.out _).mono ?_
    rintro e w' ⟨rfl, rfl⟩
    go_wp2_with fail
    refine (C2.out _).mono ?_
    rintro e w' ⟨rfl, rfl⟩
    go_wp2_with fail
    refine (GE.out _).mono ?_
    rintro e w' ⟨rfl, rfl⟩
    go_wp2_with fail
    refine (GE2.out _).mono ?_
    rintro e w' ⟨rfl, rfl⟩
    go_wp2_with fail
    go_ret
    exact ⟨rfl, B0.out⟩
end Go.Proofs.Yteajgejpjodfbaa.SF
