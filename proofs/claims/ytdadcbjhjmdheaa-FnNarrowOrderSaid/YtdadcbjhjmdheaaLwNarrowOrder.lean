/-
  The walk of a law.
-/
import Derived.Test.YtdadcbjhjmdheaaNarOA
import Derived.Test.YtdadcbjhjmdheaaNarOB
import Derived.Test.YtdadcbjhjmdheaaNarOC
import Derived.Test.YtdadcbjhjmdheaaNarOD
import Derived.Test.YtdadcbjhjmdheaaNarOE
namespace Go.Proofs.Ytdadcbjhjmdheaa.SF
open Go.ChangeShapes Go.WideShapes Go.ChangeAt Go.RowKit
set_option linter.unusedVariables false
set_option maxRecDepth 100000 in
set_option maxHeartbeats 4000000 in
theorem fnNarrowOrder (x : Nat) (y : Nat) (w : World) (hx : x < 18446744073709551616) (hy : y < 18446744073709551616) : Calls Try.prog 12 #[.int .u64 (x : Int), .int .u64 (y : Int)] w (LawPost w) := by
  cases nx : isNaN64 x
  · cases ny : isNaN64 y
    · rcases ord_cases (key64 x) (key64 y) with ho | ho | ho
      · cases hz : isZero32 (narrow x)
        · exact nar_b x y w hx hy nx ny ho hz
        · exact nar_a x y w hx hy nx ny ho hz
      · cases hz : isZero32 (narrow x)
        · exact nar_d x y w hx hy nx ny ho hz
        · exact nar_c x y w hx hy nx ny ho hz
      · exact nar_e x y w hx hy nx ny ho
    · skip
      have NX := fun w => fnan64_any x w hx
      have NY := fun w => fnan64_any y w hy
      have C : Hid (∀ w, Calls Try.prog 35 #[.int .u64 4607182418800017408] w (RetW (.int .u32 1065353216) w)) := Lib.hid fun w => by
        have := implNarrow 4607182418800017408 w (by omega)
        rwa [narrow_one] at this
      rw [nx] at NX
      rw [ny] at NY
      clear hx hy nx ny
      have NX := Lib.hid NX
      have NY := Lib.hid NY
      have B0 := Lib.hid (Below.refl w.heap.size w)
      go_enter Try.func12, Try.ntmps12
      go_wp2_with fail
      refine (fmt64_any _).mono ?_
      rintro e u1 ⟨rfl, hb⟩
      have B1 := Lib.hid (below_trans' B0.out hb)
      clear hb
      go_wp2_with fail
      refine (fmt32_any _).mono ?_
      rintro e u2 ⟨rfl, hb⟩
      have B2 := Lib.hid (below_trans' B1.out hb)
      clear hb
      have HS0 := Lib.hid (TWA.start0 u2)
      go_wp2_with fail
      refine (C.out _).mono ?_
      rintro e w' ⟨rfl, rfl⟩
      go_wp2_with fail
      refine (NX.out _).mono ?_
      rintro e v1 ⟨rfl, hb⟩
      have hs := TWA.step HS0.out hb
      have HS1 := Lib.hid hs
      clear hb
      obtain ⟨⟨c0, c1, c2, c3, c4, c5, c6⟩, d0, d1, d2, d3, d4, d5⟩ := hs
      clear c5 c6 d5
      go_wp2_with fail
      refine (NY.out _).mono ?_
      rintro e v2 ⟨rfl, hb⟩
      have hs := TWA.step HS1.out hb
      have HS2 := Lib.hid hs
      clear hb c0 c1 c2 c3 c4 d0 d1 d2 d3 d4
      obtain ⟨⟨c0, c1, c2, c3, c4, c5, c6⟩, d0, d1, d2, d3, d4, d5⟩ := hs
      clear c5 c6 d5
      go_wp2_with fail
      go_ret
      exact ⟨rfl, below_trans' B2.out (FB64.below HS2.out.1)⟩
  · skip
    have NX := fun w => fnan64_any x w hx
    have NY := fun w => fnan64_any y w hy
    have C : Hid (∀ w, Calls Try.prog 35 #[.int .u64 4607182418800017408] w (RetW (.int .u32 1065353216) w)) := Lib.hid fun w => by
      have := implNarrow 4607182418800017408 w (by omega)
      rwa [narrow_one] at this
    rw [nx] at NX
    clear hx hy nx NY
    have NX := Lib.hid NX
    have B0 := Lib.hid (Below.refl w.heap.size w)
    go_enter Try.func12, Try.ntmps12
    go_wp2_with fail
    refine (fmt64_any _).mono ?_
    rintro e u1 ⟨rfl, hb⟩
    have B1 := Lib.hid (below_trans' B0.out hb)
    clear hb
    go_wp2_with fail
    refine (fmt32_any _).mono ?_
    rintro e u2 ⟨rfl, hb⟩
    have B2 := Lib.hid (below_trans' B1.out hb)
    clear hb
    have HS0 := Lib.hid (TWA.start0 u2)
    go_wp2_with fail
    refine (C.out _).mono ?_
    rintro e w' ⟨rfl, rfl⟩
    go_wp2_with fail
    refine (NX.out _).mono ?_
    rintro e v1 ⟨rfl, hb⟩
    have hs := TWA.step HS0.out hb
    have HS1 := Lib.hid hs
    clear hb
    obtain ⟨⟨c0, c1, c2, c3, c4, c5, c6⟩, d0, d1, d2, d3, d4, d5⟩ := hs
    clear c5 c6 d5
    go_wp2_with fail
    go_ret
    exact ⟨rfl, below_trans' B2.out (FB64.below HS1.out.1)⟩
end Go.Proofs.Ytdadcbjhjmdheaa.SF
