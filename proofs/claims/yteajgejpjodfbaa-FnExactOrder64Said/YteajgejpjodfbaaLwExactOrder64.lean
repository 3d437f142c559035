/-
  The walk of a law.
-/
import Derived.Test.YteajgejpjodfbaaWrap
import Derived.Test.YteajgejpjodfbaaFrame
import Derived.Test.YteajgejpjodfbaaCmpK
namespace Go.Proofs.Yteajgejpjodfbaa.SF
open Go.ChangeShapes Go.WideShapes Go.ChangeAt Go.RowKit
set_option linter.unusedVariables false
set_option maxRecDepth 100000 in
set_option maxHeartbeats 4000000 in
theorem fnExactOrder64 (x : Nat) (y : Nat) (w : World) (hx : x < 18446744073709551616) (hy : y < 18446744073709551616) : Calls Try.prog 10 #[.int .u64 (x : Int), .int .u64 (y : Int)] w (LawPost w) := by
  have EQ := fun w => implEq64 x y w hx hy
  have GT := fun w => implGt64 x y w hx hy
  have GE := fun w => implGe64 x y w hx hy
  have NX := fun w => fnan64_any x w hx
  have NY := fun w => fnan64_any y w hy
  have CM := fun w => fcmpS64_any x y w hx hy
  rw [cmpS_key64 hx hy] at CM
  unfold eqB at EQ
  unfold gtB at GT
  unfold geB at GE
  cases nx : isNaN64 x
  · cases ny : isNaN64 y
    · have hn : cmpN x y = false := by unfold cmpN; rw [nx, ny]; rfl
      have t1 : cmpR x y = ordI (key64 x) (key64 y) := by
        rw [← cmpF_key hx hy]; exact if_neg (by rw [hn]; decide)
      rw [t1, hn] at EQ GT GE
      have hc : ordI (key64 x) (key64 y) = -1 ∨ ordI (key64 x) (key64 y) = 0 ∨ ordI (key64 x) (key64 y) = 1 := by unfold ordI; split <;> (try split) <;> simp
      rw [nx] at NX
      rw [ny] at NY
      clear t1 hn nx ny hx hy
      generalize ordI (key64 x) (key64 y) = c at *
      rcases hc with rfl | rfl | rfl
      · simp at EQ GT GE
        have EQ := Lib.hid EQ
        have GT := Lib.hid GT
        have GE := Lib.hid GE
        have NX := Lib.hid NX
        have NY := Lib.hid NY
        have CM := Lib.hid CM
        have B0 := Lib.hid (Below.refl w.heap.size w)
        go_enter Try.func10, Try.ntmps10
        go_wp2_with fail
        refine (fmt64_any _).mono ?_
        rintro e u1 ⟨rfl, hb⟩
        have B1 := Lib.hid (below_trans' B0.out hb)
        clear hb
        have HS0 := Lib.hid (FB64.start0 u1)
        go_wp2_with fail
        refine (NX.out _).mono ?_
        rintro e v1 ⟨rfl, hb⟩
        have hs := FB64.step HS0.out hb
        have HS1 := Lib.hid hs
        clear hb
        obtain ⟨c0, c1, c2, c3, c4, c5, c6⟩ := hs
        clear c5 c6
        go_wp2_with fail
        refine (NY.out _).mono ?_
        rintro e v2 ⟨rfl, hb⟩
        have hs := FB64.step HS1.out hb
        have HS2 := Lib.hid hs
        clear hb c0 c1 c2 c3 c4
        obtain ⟨c0, c1, c2, c3, c4, c5, c6⟩ := hs
        clear c5 c6
        go_wp2_with fail
        refine (CM.out _).mono ?_
        rintro e v3 ⟨rfl, hb⟩
        have hs := FB64.step HS2.out hb
        have HS3 := Lib.hid hs
        clear hb c0 c1 c2 c3 c4
        obtain ⟨c0, c1, c2, c3, c4, c5, c6⟩ := hs
        clear c5 c6
        go_wp2_with fail
        refine (EQ.out _).mono ?_
        rintro e w' ⟨rfl, rfl⟩
        go_wp2_with fail
        refine (GT.out _).mono ?_
        rintro e w' ⟨rfl, rfl⟩
        go_wp2_with fail
        refine (GE.out _).mono ?_
        rintro e w' ⟨rfl, rfl⟩
        go_wp2_with fail
        go_ret
        exact ⟨rfl, below_trans' B1.out (FB64.below HS3.out)⟩
      · simp at EQ GT GE
        have EQ := Lib.hid EQ
        have GT := Lib.hid GT
        have GE := Lib.hid GE
        have NX := Lib.hid NX
        have NY := Lib.hid NY
        have CM := Lib.hid CM
        have B0 := Lib.hid (Below.refl w.heap.size w)
        go_enter Try.func10, Try.ntmps10
        go_wp2_with fail
        refine (fmt64_any _).mono ?_
        rintro e u1 ⟨rfl, hb⟩
        have B1 := Lib.hid (below_trans' B0.out hb)
        clear hb
        have HS0 := Lib.hid (FB64.start0 u1)
        go_wp2_with fail
        refine (NX.out _).mono ?_
        rintro e v1 ⟨rfl, hb⟩
        have hs := FB64.step HS0.out hb
        have HS1 := Lib.hid hs
        clear hb
        obtain ⟨c0, c1, c2, c3, c4, c5, c6⟩ := hs
        clear c5 c6
        go_wp2_with fail
        refine (NY.out _).mono ?_
        rintro e v2 ⟨rfl, hb⟩
        have hs := FB64.step HS1.out hb
        have HS2 := Lib.hid hs
        clear hb c0 c1 c2 c3 c4
        obtain ⟨c0, c1, c2, c3, c4, c5, c6⟩ := hs
        clear c5 c6
        go_wp2_with fail
        refine (CM.out _).mono ?_
        rintro e v3 ⟨rfl, hb⟩
        have hs := FB64.step HS2.out hb
        have HS3 := Lib.hid hs
        clear hb c0 c1 c2 c3 c4
        obtain ⟨c0, c1, c2, c3, c4, c5, c6⟩ := hs
        clear c5 c6
        go_wp2_with fail
        refine (EQ.out _).mono ?_
        rintro e w' ⟨rfl, rfl⟩
        go_wp2_with fail
        refine (GT.out _).mono ?_
        rintro e w' ⟨rfl, rfl⟩
        go_wp2_with fail
        refine (GE.out _).mono ?_
        rintro e w' ⟨rfl, rfl⟩
        go_wp2_with fail
        go_ret
        exact ⟨rfl, below_trans' B1.out (FB64.below HS3.out)⟩
      · simp at EQ GT GE
        have EQ := Lib.hid EQ
        have GT := Lib.hid GT
        have GE := Lib.hid GE
        have NX := Lib.hid NX
        have NY := Lib.hid NY
        have CM := Lib.hid CM
        have B0 := Lib.hid (Below.refl w.heap.size w)
        go_enter Try.func10, Try.ntmps10
        go_wp2_with fail
        refine (fmt64_any _).mono ?_
        rintro e u1 ⟨rfl, hb⟩
        have B1 := Lib.hid (below_trans' B0.out hb)
        clear hb
        have HS0 := Lib.hid (FB64.start0 u1)
        go_wp2_with fail
        refine (NX.out _).mono ?_
        rintro e v1 ⟨rfl, hb⟩
        have hs := FB64.step HS0.out hb
        have HS1 := Lib.hid hs
        clear hb
        obtain ⟨c0, c1, c2, c3, c4, c5, c6⟩ := hs
        clear c5 c6
        go_wp2_with fail
        refine (NY.out _).mono ?_
        rintro e v2 ⟨rfl, hb⟩
        have hs := FB64.step HS1.out hb
        have HS2 := Lib.hid hs
        clear hb c0 c1 c2 c3 c4
        obtain ⟨c0, c1, c2, c3, c4, c5, c6⟩ := hs
        clear c5 c6
        go_wp2_with fail
        refine (CM.out _).mono ?_
        rintro e v3 ⟨rfl, hb⟩
        have hs := FB64.step HS2.out hb
        have HS3 := Lib.hid hs
        clear hb c0 c1 c2 c3 c4
        obtain ⟨c0, c1, c2, c3, c4, c5, c6⟩ := hs
        clear c5 c6
        go_wp2_with fail
        refine (EQ.out _).mono ?_
        rintro e w' ⟨rfl, rfl⟩
        go_wp2_with fail
        refine (GT.out _).mono ?_
        rintro e w' ⟨rfl, rfl⟩
        go_wp2_with fail
        refine (GE.out _).mono ?_
        rintro e w' ⟨rfl, rfl⟩
        go_wp2_with fail
        go_ret
        exact ⟨rfl, below_trans' B1.out (FB64.below HS3.out)⟩
    · skip
      have hn : cmpN x y = true := by unfold cmpN; rw [ny]; simp
      rw [hn] at EQ GT GE
      simp at EQ GT GE
      rw [nx] at NX
      rw [ny] at NY
      have EQ := Lib.hid EQ
      have GT := Lib.hid GT
      have GE := Lib.hid GE
      have NX := Lib.hid NX
      have NY := Lib.hid NY
      clear hn nx hx hy CM ny
      have B0 := Lib.hid (Below.refl w.heap.size w)
      go_enter Try.func10, Try.ntmps10
      go_wp2_with fail
      refine (fmt64_any _).mono ?_
      rintro e u1 ⟨rfl, hb⟩
      have B1 := Lib.hid (below_trans' B0.out hb)
      clear hb
      have HS0 := Lib.hid (FB64.start0 u1)
      go_wp2_with fail
      refine (NX.out _).mono ?_
      rintro e v1 ⟨rfl, hb⟩
      have hs := FB64.step HS0.out hb
      have HS1 := Lib.hid hs
      clear hb
      obtain ⟨c0, c1, c2, c3, c4, c5, c6⟩ := hs
      clear c5 c6
      go_wp2_with fail
      refine (NY.out _).mono ?_
      rintro e v2 ⟨rfl, hb⟩
      have hs := FB64.step HS1.out hb
      have HS2 := Lib.hid hs
      clear hb c0 c1 c2 c3 c4
      obtain ⟨c0, c1, c2, c3, c4, c5, c6⟩ := hs
      clear c5 c6
      go_wp2_with fail
      refine (EQ.out _).mono ?_
      rintro e w' ⟨rfl, rfl⟩
      go_wp2_with fail
      refine (GT.out _).mono ?_
      rintro e w' ⟨rfl, rfl⟩
      go_wp2_with fail
      refine (GE.out _).mono ?_
      rintro e w' ⟨rfl, rfl⟩
      go_wp2_with fail
      go_ret
      exact ⟨rfl, below_trans' B1.out (FB64.below HS2.out)⟩
  · skip
    have hn : cmpN x y = true := by unfold cmpN; rw [nx]; simp
    rw [hn] at EQ GT GE
    simp at EQ GT GE
    rw [nx] at NX
    have EQ := Lib.hid EQ
    have GT := Lib.hid GT
    have GE := Lib.hid GE
    have NX := Lib.hid NX
    clear hn nx hx hy CM NY
    have B0 := Lib.hid (Below.refl w.heap.size w)
    go_enter Try.func10, Try.ntmps10
    go_wp2_with fail
    refine (fmt64_any _).mono ?_
    rintro e u1 ⟨rfl, hb⟩
    have B1 := Lib.hid (below_trans' B0.out hb)
    clear hb
    have HS0 := Lib.hid (FB64.start0 u1)
    go_wp2_with fail
    refine (NX.out _).mono ?_
    rintro e v1 ⟨rfl, hb⟩
    have hs := FB64.step HS0.out hb
    have HS1 := Lib.hid hs
    clear hb
    obtain ⟨c0, c1, c2, c3, c4, c5, c6⟩ := hs
    clear c5 c6
    go_wp2_with fail
    refine (EQ.out _).mono ?_
    rintro e w' ⟨rfl, rfl⟩
    go_wp2_with fail
    refine (GT.out _).mono ?_
    rintro e w' ⟨rfl, rfl⟩
    go_wp2_with fail
    refine (GE.out _).mono ?_
    rintro e w' ⟨rfl, rfl⟩
    go_wp2_with fail
    go_ret
    exact ⟨rfl, below_trans' B1.out (FB64.below HS1.out)⟩
end Go.Proofs.Yteajgejpjodfbaa.SF
