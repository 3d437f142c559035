/-
  The walk of a law.
-/
import Derived.Test.YtignbdajgnnlpaaWrap
import Derived.Test.YtignbdajgnnlpaaAlikeW
import Derived.Test.YtignbdajgnnlpaaFmtB
import Derived.Test.YtignbdajgnnlpaaFrame
import Derived.Test.YtignbdajgnnlpaaSpecW
import Derived.Test.YtignbdajgnnlpaaToW2
import Derived.Test.YtignbdajgnnlpaaToLP
namespace Go.Proofs.Ytignbdajgnnlpaa.SF
open Go.ChangeShapes Go.WideShapes Go.ChangeAt Go.RowKit
set_option linter.unusedVariables false
set_option maxRecDepth 100000 in
set_option maxHeartbeats 4000000 in
theorem fnExactToUint64From32 (x : Nat) (w : World) (hx : x < 4294967296) : Calls Try.prog 9 #[.int .u32 (x : Int)] w (LawPost w) := by
  have WH := fun w => fwhole32_any x w hx
  have SX := fun w => fneg32_any x w hx
  have cx : IntKind.u64.wrap (x : Int) = (x : Int) := wrap_u64_nat (by omega)
  have hIM := fun (h : whB32 x = true) (h2 : neg32 x = true → wh32 x = 0) (w : World) => implToUint64From32 x w hx (whB_fin32 h).1 (whB_fin32 h).2 h2
  cases hB : whB32 x
  · rw [hB] at WH
    simp only [Bool.false_eq_true, if_false] at WH
    have WH := Lib.hid WH
    clear hx hB hIM SX
    have B0 := Lib.hid (Below.refl w.heap.size w)
    go_enter Try.func9, Try.ntmps9
    go_wp2_with fail
    refine (fmt32_any _).mono ?_
    rintro e u1 ⟨rfl, hb⟩
    have B1 := Lib.hid (below_trans' B0.out hb)
    clear hb
    have HS0 := Lib.hid (FB32.start0 u1)
    go_wp2_with fail
    refine (WH.out _).mono ?_
    rintro e v1 ⟨rfl, hb⟩
    have hs := FB32.step HS0.out hb
    have HS1 := Lib.hid hs
    clear hb
    obtain ⟨c0, c1, c2, c3, c4, c5, c6⟩ := hs
    clear c5 c6
    go_wp2_with fail
    go_ret
    exact ⟨rfl, below_trans' B1.out (FB32.below HS1.out)⟩
  · rw [hB] at WH
    simp only [if_true] at WH
    have hIM := hIM hB
    generalize wh32 x = Z at *
    generalize neg32 x = ng at *
    cases ng
    · have IM := hIM (by simp)
      have WH := Lib.hid WH
      have SX := Lib.hid SX
      have IM := Lib.hid IM
      clear hx hB hIM
      have B0 := Lib.hid (Below.refl w.heap.size w)
      go_enter Try.func9, Try.ntmps9
      go_wp2_with fail
      refine (fmt32_any _).mono ?_
      rintro e u1 ⟨rfl, hb⟩
      have B1 := Lib.hid (below_trans' B0.out hb)
      clear hb
      have HS0 := Lib.hid (FB32.start0 u1)
      go_wp2_with fail
      refine (WH.out _).mono ?_
      rintro e v1 ⟨rfl, hb⟩
      have hs := FB32.step HS0.out hb
      have HS1 := Lib.hid hs
      clear hb
      obtain ⟨c0, c1, c2, c3, c4, c5, c6⟩ := hs
      clear c5 c6
      go_wp2_with fail
      refine (SX.out _).mono ?_
      rintro e v2 ⟨rfl, hb⟩
      have hs := FB32.step HS1.out hb
      have HS2 := Lib.hid hs
      clear hb c0 c1 c2 c3 c4
      obtain ⟨c0, c1, c2, c3, c4, c5, c6⟩ := hs
      clear c5 c6
      go_wp2_with fail
      refine (IM.out _).mono ?_
      rintro e w' ⟨rfl, rfl⟩
      go_wp2_with fail
      go_ret
      exact ⟨rfl, below_trans' B1.out (FB32.below HS2.out)⟩
    · by_cases h0 : Z = 0
      · subst h0
        have IM := hIM (fun _ => rfl)
        have WH := Lib.hid WH
        have SX := Lib.hid SX
        have IM := Lib.hid IM
        clear hx hB hIM
        have B0 := Lib.hid (Below.refl w.heap.size w)
        go_enter Try.func9, Try.ntmps9
        go_wp2_with fail
        refine (fmt32_any _).mono ?_
        rintro e u1 ⟨rfl, hb⟩
        have B1 := Lib.hid (below_trans' B0.out hb)
        clear hb
        have HS0 := Lib.hid (FB32.start0 u1)
        go_wp2_with fail
        refine (WH.out _).mono ?_
        rintro e v1 ⟨rfl, hb⟩
        have hs := FB32.step HS0.out hb
        have HS1 := Lib.hid hs
        clear hb
        obtain ⟨c0, c1, c2, c3, c4, c5, c6⟩ := hs
        clear c5 c6
        go_wp2_with fail
        refine (SX.out _).mono ?_
        rintro e v2 ⟨rfl, hb⟩
        have hs := FB32.step HS1.out hb
        have HS2 := Lib.hid hs
        clear hb c0 c1 c2 c3 c4
        obtain ⟨c0, c1, c2, c3, c4, c5, c6⟩ := hs
        clear c5 c6
        go_wp2_with fail
        refine (IM.out _).mono ?_
        rintro e w' ⟨rfl, rfl⟩
        go_wp2_with fail
        go_ret
        exact ⟨rfl, below_trans' B1.out (FB32.below HS2.out)⟩
      · have hp : 0 < Z := by omega
        have d1 : decide (0 < (Z : Int)) = true := decide_eq_true (by omega)
        have WH := Lib.hid WH
        have SX := Lib.hid SX
        clear hx hB hIM h0
        have B0 := Lib.hid (Below.refl w.heap.size w)
        go_enter Try.func9, Try.ntmps9
        go_wp2_with fail
        refine (fmt32_any _).mono ?_
        rintro e u1 ⟨rfl, hb⟩
        have B1 := Lib.hid (below_trans' B0.out hb)
        clear hb
        have HS0 := Lib.hid (FB32.start0 u1)
        go_wp2_with fail
        refine (WH.out _).mono ?_
        rintro e v1 ⟨rfl, hb⟩
        have hs := FB32.step HS0.out hb
        have HS1 := Lib.hid hs
        clear hb
        obtain ⟨c0, c1, c2, c3, c4, c5, c6⟩ := hs
        clear c5 c6
        go_wp2_with fail
        refine (SX.out _).mono ?_
        rintro e v2 ⟨rfl, hb⟩
        have hs := FB32.step HS1.out hb
        have HS2 := Lib.hid hs
        clear hb c0 c1 c2 c3 c4
        obtain ⟨c0, c1, c2, c3, c4, c5, c6⟩ := hs
        clear c5 c6
        go_wp2_with fail
        go_ret
        exact ⟨rfl, below_trans' B1.out (FB32.below HS2.out)⟩
end Go.Proofs.Ytignbdajgnnlpaa.SF
