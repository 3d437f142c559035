/-
  The walk of a law.
-/
import Derived.Test.YtdadcbjhjmdheaaWrap
import Derived.Test.YtdadcbjhjmdheaaFrame
import Derived.Test.YtdadcbjhjmdheaaCmpK
import Derived.Test.YtdadcbjhjmdheaaDR3
import Derived.Test.YtdadcbjhjmdheaaAlgC
namespace Go.Proofs.Ytdadcbjhjmdheaa.SF
open Go.ChangeShapes Go.WideShapes Go.ChangeAt Go.RowKit
set_option linter.unusedVariables false
set_option maxRecDepth 100000 in
set_option maxHeartbeats 4000000 in
theorem fnExactOrder32 (x : Nat) (y : Nat) (w : World) (hx : x < 4294967296) (hy : y < 4294967296) : Calls Try.prog 6 #[.int .u32 (x : Int), .int .u32 (y : Int)] w (LawPost w) := by
  have EQ := fun w => implEq32 x y w hx hy
  have GT := fun w => implGt32 x y w hx hy
  have GE := fun w => implGe32 x y w hx hy
  have NX := fun w => fnan32_any x w hx
  have NY := fun w => fnan32_any y w hy
  have CM := fun w => fcmpS32_any x y w hx hy
  rw [cmpS_key32 hx hy] at CM
  unfold eqB at EQ
  unfold gtB at GT
  unfold geB at GE
  have cx : IntKind.u64.wrap (x : Int) = (x : Int) := wrap_u64_nat (by omega)
  have cy : IntKind.u64.wrap (y : Int) = (y : Int) := wrap_u64_nat (by omega)
  have ex := widen_isNaN x
  have ey := widen_isNaN y
  cases nx : isNaN32 x
  · cases ny : isNaN32 y
    · have hn : cmpN (widen x) (widen y) = false := by unfold cmpN; rw [ex, ey, nx, ny]; rfl
      have t1 : cmpR (widen x) (widen y) = ordI (key32 x) (key32 y) := by
        rw [← widen_ord nx ny, ← cmpF_key (widen_lt x) (widen_lt y)]; exact if_neg (by rw [hn]; decide)
      rw [t1, hn] at EQ GT GE
      have hc : ordI (key32 x) (key32 y) = -1 ∨ ordI (key32 x) (key32 y) = 0 ∨ ordI (key32 x) (key32 y) = 1 := by unfold ordI; split <;> (try split) <;> simp
      rw [nx] at NX
      rw [ny] at NY
      clear t1 hn nx ny hx hy ex ey
      generalize ordI (key32 x) (key32 y) = c at *
      rcases hc with rfl | rfl | rfl
      · simp at EQ GT GE
        have EQ := Lib.hid EQ
        have GT := Lib.hid GT
        have GE := Lib.hid GE
        have NX := Lib.hid NX
        have NY := Lib.hid NY
        have CM := Lib.hid CM
        have B0 := Lib.hid (Below.refl w.heap.size w)
        go_enter Try.func6, Try.ntmps6
        go_wp2_with fail
        refine (fmt32_any _).mono ?_
        rintro e u1 ⟨rfl, hb⟩
        have B1 := Lib.hid (below_trans' B0.out hb)
        clear hb
        have HS0 := Lib.hid (FB32.start0 u1)
        go_wp2_with fail
        refine (NX.out _).mono ?_
        rintro e v1 ⟨rfl, hb⟩
        have hs := FB32.step HS0.out hb
        have HS1 := Lib.hid hs
        clear hb
        obtain ⟨c0, c1, c2, c3, c4, c5, c6⟩ := hs
        clear c5 c6
        go_wp2_with fail
        refine (NY.out _).mono ?_
        rintro e v2 ⟨rfl, hb⟩
        have hs := FB32.step HS1.out hb
        have HS2 := Lib.hid hs
        clear hb c0 c1 c2 c3 c4
        obtain ⟨c0, c1, c2, c3, c4, c5, c6⟩ := hs
        clear c5 c6
        go_wp2_with fail
        refine (CM.out _).mono ?_
        rintro e v3 ⟨rfl, hb⟩
        have hs := FB32.step HS2.out hb
        have HS3 := Lib.hid hs
        clear hb c0 c1 c2 c3 c4
        obtain ⟨c0, c1, c2, c3, c4, c5, c6⟩ := hs
        clear c5 c6
        go_wp2_with fail
        refine (EQ.out _).mono ?_
        rintro e w' ⟨rfl, rfl⟩
        go_wp2_with fail
        refine (GT.out _).mono ?_
        rintro e w' ⟨rfl, rfl⟩
        go_wp2_with fail
        refine (GE.out _).mono ?_
        rintro e w' ⟨rfl, rfl⟩
        go_wp2_with fail
        go_ret
        exact ⟨rfl, below_trans' B1.out (FB32.below HS3.out)⟩
      · simp at EQ GT GE
        have EQ := Lib.hid EQ
        have GT := Lib.hid GT
        have GE := Lib.hid GE
        have NX := Lib.hid NX
        have NY := Lib.hid NY
        have CM := Lib.hid CM
        have B0 := Lib.hid (Below.refl w.heap.size w)
        go_enter Try.func6, Try.ntmps6
        go_wp2_with fail
        refine (fmt32_any _).mono ?_
        rintro e u1 ⟨rfl, hb⟩
        have B1 := Lib.hid (below_trans' B0.out hb)
        clear hb
        have HS0 := Lib.hid (FB32.start0 u1)
        go_wp2_with fail
        refine (NX.out _).mono ?_
        rintro e v1 ⟨rfl, hb⟩
        have hs := FB32.step HS0.out hb
        have HS1 := Lib.hid hs
        clear hb
        obtain ⟨c0, c1, c2, c3, c4, c5, c6⟩ := hs
        clear c5 c6
        go_wp2_with fail
        refine (NY.out _).mono ?_
        rintro e v2 ⟨rfl, hb⟩
        have hs := FB32.step HS1.out hb
        have HS2 := Lib.hid hs
        clear hb c0 c1 c2 c3 c4
        obtain ⟨c0, c1, c2, c3, c4, c5, c6⟩ := hs
        clear c5 c6
        go_wp2_with fail
        refine (CM.out _).mono ?_
        rintro e v3 ⟨rfl, hb⟩
        have hs := FB32.step HS2.out hb
        have HS3 := Lib.hid hs
        clear hb c0 c1 c2 c3 c4
        obtain ⟨c0, c1, c2, c3, c4, c5, c6⟩ := hs
        clear c5 c6
        go_wp2_with fail
        refine (EQ.out _).mono ?_
        rintro e w' ⟨rfl, rfl⟩
        go_wp2_with fail
        refine (GT.out _).mono ?_
        rintro e w' ⟨rfl, rfl⟩
        go_wp2_with fail
        refine (GE.out _).mono ?_
        rintro e w' ⟨rfl, rfl⟩
        go_wp2_with fail
        go_ret
        exact ⟨rfl, below_trans' B1.out (FB32.below HS3.out)⟩
      · simp at EQ GT GE
        have EQ := Lib.hid EQ
        have GT := Lib.hid GT
        have GE := Lib.hid GE
        have NX := Lib.hid NX
        have NY := Lib.hid NY
        have CM := Lib.hid CM
        have B0 := Lib.hid (Below.refl w.heap.size w)
        go_enter Try.func6, Try.ntmps6
        go_wp2_with fail
        refine (fmt32_any _).mono ?_
        rintro e u1 ⟨rfl, hb⟩
        have B1 := Lib.hid (below_trans' B0.out hb)
        clear hb
        have HS0 := Lib.hid (FB32.start0 u1)
        go_wp2_with fail
        refine (NX.out _).mono ?_
        rintro e v1 ⟨rfl, hb⟩
        have hs := FB32.step HS0.out hb
        have HS1 := Lib.hid hs
        clear hb
        obtain ⟨c0, c1, c2, c3, c4, c5, c6⟩ := hs
        clear c5 c6
        go_wp2_with fail
        refine (NY.out _).mono ?_
        rintro e v2 ⟨rfl, hb⟩
        have hs := FB32.step HS1.out hb
        have HS2 := Lib.hid hs
        clear hb c0 c1 c2 c3 c4
        obtain ⟨c0, c1, c2, c3, c4, c5, c6⟩ := hs
        clear c5 c6
        go_wp2_with fail
        refine (CM.out _).mono ?_
        rintro e v3 ⟨rfl, hb⟩
        have hs := FB32.step HS2.out hb
        have HS3 := Lib.hid hs
        clear hb c0 c1 c2 c3 c4
        obtain ⟨c0, c1, c2, c3, c4, c5, c6⟩ := hs
        clear c5 c6
        go_wp2_with fail
        refine (EQ.out _).mono ?_
        rintro e w' ⟨rfl, rfl⟩
        go_wp2_with fail
        refine (GT.out _).mono ?_
        rintro e w' ⟨rfl, rfl⟩
        go_wp2_with fail
        refine (GE.out _).mono ?_
        rintro e w' ⟨rfl, rfl⟩
        go_wp2_with fail
        go_ret
        exact ⟨rfl, below_trans' B1.out (FB32.below HS3.out)⟩
    · skip
      have hn : cmpN (widen x) (widen y) = true := by unfold cmpN; rw [ey, ny]; simp
      rw [hn] at EQ GT GE
      simp at EQ GT GE
      rw [nx] at NX
      rw [ny] at NY
      have EQ := Lib.hid EQ
      have GT := Lib.hid GT
      have GE := Lib.hid GE
      have NX := Lib.hid NX
      have NY := Lib.hid NY
      clear hn nx hx hy CM ny ex ey
      have B0 := Lib.hid (Below.refl w.heap.size w)
      go_enter Try.func6, Try.ntmps6
      go_wp2_with fail
      refine (fmt32_any _).mono ?_
      rintro e u1 ⟨rfl, hb⟩
      have B1 := Lib.hid (below_trans' B0.out hb)
      clear hb
      have HS0 := Lib.hid (FB32.start0 u1)
      go_wp2_with fail
      refine (NX.out _).mono ?_
      rintro e v1 ⟨rfl, hb⟩
      have hs := FB32.step HS0.out hb
      have HS1 := Lib.hid hs
      clear hb
      obtain ⟨c0, c1, c2, c3, c4, c5, c6⟩ := hs
      clear c5 c6
      go_wp2_with fail
      refine (NY.out _).mono ?_
      rintro e v2 ⟨rfl, hb⟩
      have hs := FB32.step HS1.out hb
      have HS2 := Lib.hid hs
      clear hb c0 c1 c2 c3 c4
      obtain ⟨c0, c1, c2, c3, c4, c5, c6⟩ := hs
      clear c5 c6
      go_wp2_with fail
      refine (EQ.out _).mono ?_
      rintro e w' ⟨rfl, rfl⟩
      go_wp2_with fail
      refine (GT.out _).mono ?_
      rintro e w' ⟨rfl, rfl⟩
      go_wp2_with fail
      refine (GE.out _).mono ?_
      rintro e w' ⟨rfl, rfl⟩
      go_wp2_with fail
      go_ret
      exact ⟨rfl, below_trans' B1.out (FB32.below HS2.out)⟩
  · skip
    have hn : cmpN (widen x) (widen y) = true := by unfold cmpN; rw [ex, nx]; simp
    rw [hn] at EQ GT GE
    simp at EQ GT GE
    rw [nx] at NX
    have EQ := Lib.hid EQ
    have GT := Lib.hid GT
    have GE := Lib.hid GE
    have NX := Lib.hid NX
    clear hn nx hx hy CM NY ex ey
    have B0 := Lib.hid (Below.refl w.heap.size w)
    go_enter Try.func6, Try.ntmps6
    go_wp2_with fail
    refine (fmt32_any _).mono ?_
    rintro e u1 ⟨rfl, hb⟩
    have B1 := Lib.hid (below_trans' B0.out hb)
    clear hb
    have HS0 := Lib.hid (FB32.start0 u1)
    go_wp2_with fail
    refine (NX.out _).mono ?_
    rintro e v1 ⟨rfl, hb⟩
    have hs := FB32.step HS0.out hb
    have HS1 := Lib.hid hs
    clear hb
    obtain ⟨c0, c1, c2, c3, c4, c5, c6⟩ := hs
    clear c5 c6
    go_wp2_with fail
    refine (EQ.out _).mono ?_
    rintro e w' ⟨rfl, rfl⟩
    go_wp2_with fail
    refine (GT.out _).mono ?_
    rintro e w' ⟨rfl, rfl⟩
    go_wp2_with fail
    refine (GE.out _).mono ?_
    rintro e w' ⟨rfl, rfl⟩
    go_wp2_with fail
    go_ret
    exact ⟨rfl, below_trans' B1.out (FB32.below HS1.out)⟩
end Go.Proofs.Ytdadcbjhjmdheaa.SF
