/-
  The walk of a law.
-/
import Derived.Test.YtpjanmahbimhkaaGoW64a
import Derived.Test.YtpjanmahbimhkaaGoW64b
import Derived.Test.YtpjanmahbimhkaaGoW64c
import Derived.Test.YtpjanmahbimhkaaAlgC
namespace Go.Proofs.Ytpjanmahbimhkaa.SF
open Go.ChangeShapes Go.WideShapes Go.ChangeAt Go.RowKit
set_option linter.unusedVariables false
set_option maxRecDepth 100000 in
set_option maxHeartbeats 4000000 in
theorem fnGo64 (x : Nat) (y : Nat) (w : World) (hx : x < 18446744073709551616) (hy : y < 18446744073709551616) : Calls Try.prog 13 #[.int .u64 (x : Int), .int .u64 (y : Int)] w (LawPost w) := by
  by_cases hn : isNaN64 x = true ∨ isNaN64 y = true
  · obtain ⟨o1, o2⟩ := ord_nan64 hx hy hn
    obtain ⟨c1, c2, c3⟩ := cmp_nan hn
    exact go64_c x y w hx hy c1 c2 c3 o1 o2
  · have nx : isNaN64 x = false := by cases h : isNaN64 x; rfl; exact absurd (.inl h) hn
    have ny : isNaN64 y = false := by cases h : isNaN64 y; rfl; exact absurd (.inr h) hn
    obtain ⟨o1, o2⟩ := ord_key64 hx hy nx ny
    have c1 := eqB_key hx hy nx ny
    have c2 := gtB_key hx hy nx ny
    have c3 := geB_key hx hy nx ny
    have k1 : key64 x = key64 y ↔ key64 x = key64 y := Iff.rfl
    rcases Int.lt_trichotomy (key64 x) (key64 y) with h | h | h
    · exact go64_c x y w hx hy (by rw [c1]; exact decide_eq_false (by omega)) (by rw [c2]; exact decide_eq_false (by omega)) (by rw [c3]; exact decide_eq_false (by omega)) (by rw [o1]; exact decide_eq_false (by omega)) (by rw [o2]; exact decide_eq_false (by omega))
    · exact go64_a x y w hx hy (by rw [c1]; exact decide_eq_true (by omega)) (by rw [c2]; exact decide_eq_false (by omega)) (by rw [c3]; exact decide_eq_true (by omega)) (by rw [o1]; exact decide_eq_true (by omega)) (by rw [o2]; exact decide_eq_false (by omega))
    · exact go64_b x y w hx hy (by rw [c1]; exact decide_eq_false (by omega)) (by rw [c2]; exact decide_eq_true (by omega)) (by rw [c3]; exact decide_eq_true (by omega)) (by rw [o1]; exact decide_eq_false (by omega)) (by rw [o2]; exact decide_eq_true (by omega))
end Go.Proofs.Ytpjanmahbimhkaa.SF
