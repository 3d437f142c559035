/-
  The walk of a law.
-/
import Derived.Test.YtpjanmahbimhkaaGoW32a
import Derived.Test.YtpjanmahbimhkaaGoW32b
import Derived.Test.YtpjanmahbimhkaaGoW32c
import Derived.Test.YtpjanmahbimhkaaAlgC
namespace Go.Proofs.Ytpjanmahbimhkaa.SF
open Go.ChangeShapes Go.WideShapes Go.ChangeAt Go.RowKit
set_option linter.unusedVariables false
set_option maxRecDepth 100000 in
set_option maxHeartbeats 4000000 in
theorem fnGo32 (x : Nat) (y : Nat) (w : World) (hx : x < 4294967296) (hy : y < 4294967296) : Calls Try.prog 12 #[.int .u32 (x : Int), .int .u32 (y : Int)] w (LawPost w) := by
  by_cases hn : isNaN32 x = true ∨ isNaN32 y = true
  · obtain ⟨o1, o2⟩ := ord_nan32 hx hy hn
    obtain ⟨c1, c2, c3⟩ := cmp_nan (x := widen x) (y := widen y) (by rw [widen_isNaN, widen_isNaN]; exact hn)
    exact go32_c x y w hx hy c1 c2 c3 o1 o2
  · have nx : isNaN32 x = false := by cases h : isNaN32 x; rfl; exact absurd (.inl h) hn
    have ny : isNaN32 y = false := by cases h : isNaN32 y; rfl; exact absurd (.inr h) hn
    obtain ⟨o1, o2⟩ := ord_key32 hx hy nx ny
    have nx' : isNaN64 (widen x) = false := by rw [widen_isNaN]; exact nx
    have ny' : isNaN64 (widen y) = false := by rw [widen_isNaN]; exact ny
    have c1 := eqB_key (widen_lt x) (widen_lt y) nx' ny'
    have c2 := gtB_key (widen_lt x) (widen_lt y) nx' ny'
    have c3 := geB_key (widen_lt x) (widen_lt y) nx' ny'
    obtain ⟨k1, k2⟩ := widen_keys nx ny
    rcases Int.lt_trichotomy (key32 x) (key32 y) with h | h | h
    · exact go32_c x y w hx hy (by rw [c1]; exact decide_eq_false (by omega)) (by rw [c2]; exact decide_eq_false (by omega)) (by rw [c3]; exact decide_eq_false (by omega)) (by rw [o1]; exact decide_eq_false (by omega)) (by rw [o2]; exact decide_eq_false (by omega))
    · exact go32_a x y w hx hy (by rw [c1]; exact decide_eq_true (by omega)) (by rw [c2]; exact decide_eq_false (by omega)) (by rw [c3]; exact decide_eq_true (by omega)) (by rw [o1]; exact decide_eq_true (by omega)) (by rw [o2]; exact decide_eq_false (by omega))
    · exact go32_b x y w hx hy (by rw [c1]; exact decide_eq_false (by omega)) (by rw [c2]; exact decide_eq_true (by omega)) (by rw [c3]; exact decide_eq_true (by omega)) (by rw [o1]; exact decide_eq_false (by omega)) (by rw [o2]; exact decide_eq_true (by omega))
end Go.Proofs.Ytpjanmahbimhkaa.SF
