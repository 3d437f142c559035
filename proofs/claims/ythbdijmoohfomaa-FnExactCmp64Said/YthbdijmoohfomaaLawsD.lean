/-
  The walks of the laws on comparisons of 64 bits.
-/
import Derived.Test.YthbdijmoohfomaaSpecCmp
import Derived.Test.YthbdijmoohfomaaRet
import Derived.Test.YthbdijmoohfomaaFrame
namespace Go.Proofs.Ythbdijmoohfomaa.SF
open Go.ChangeShapes Go.WideShapes Go.ChangeAt Go.RowKit
set_option linter.unusedVariables false

theorem cmpF_S {x y : Nat} (hx : x < 18446744073709551616) (hy : y < 18446744073709551616) : cmpF64 x y = cmpS64 x y := by
  have ex := sb_add_mag64 x
  have ey := sb_add_mag64 y
  have mx := mag_lt64 x
  have my := mag_lt64 y
  have sx := sb_cases64 hx
  have sy := sb_cases64 hy
  have nx : neg64 x = decide (sb64 x ≠ 0) := by
    unfold neg64
    rw [Bool.eq_iff_iff]
    simp only [decide_eq_true_eq]
    rcases sx with h | h <;> omega
  have ny : neg64 y = decide (sb64 y ≠ 0) := by
    unfold neg64
    rw [Bool.eq_iff_iff]
    simp only [decide_eq_true_eq]
    rcases sy with h | h <;> omega
  unfold cmpF64 cmpS64
  rw [nx, ny]
  generalize sb64 x = s at *
  generalize sb64 y = t at *
  generalize mag64 x = a at *
  generalize mag64 y = b at *
  by_cases hz : a = 0 ∧ b = 0
  · rw [if_pos hz, if_pos hz]
  · rw [if_neg hz, if_neg hz]
    rcases sx with rfl | rfl <;> rcases sy with rfl | rfl
    · have e0 : (decide ((0 : Nat) ≠ 0)) = false := rfl
      rw [e0, if_neg (show ¬ _ < _ by omega), if_neg (show ¬ _ < _ by omega), if_neg (show ¬ (_ : Bool) ≠ _ by decide)]
      by_cases h1 : a = b
      · rw [if_pos (by omega), if_pos h1]
      · rw [if_neg (by omega), if_neg h1]
        by_cases h2 : a < b
        · rw [if_pos (by omega), if_pos (by simp [h2])]
        · rw [if_neg (by omega), if_neg (by simp [h2])]
    · rw [if_neg (by decide), if_pos (by decide)]
      rfl
    · rw [if_pos (by decide)]
      rfl
    · have e0 : (decide ((9223372036854775808 : Nat) ≠ 0)) = true := rfl
      rw [e0, if_neg (show ¬ _ < _ by omega), if_neg (show ¬ _ < _ by omega), if_neg (show ¬ (_ : Bool) ≠ _ by decide)]
      by_cases h1 : a = b
      · rw [if_pos (by omega), if_pos h1]
      · rw [if_neg (by omega), if_neg h1]
        by_cases h2 : a < b
        · rw [if_neg (by omega), if_neg (by simp [h2])]
        · rw [if_pos (by omega), if_pos (by simp [h2])]

theorem cmpS_bd (x y : Nat) : -1 ≤ cmpS64 x y ∧ cmpS64 x y ≤ 1 := by
  unfold cmpS64
  repeat (first | split | omega)
set_option maxRecDepth 100000 in
theorem fnExactCmp64 (x y : Nat) (w : World) (hx : x < 18446744073709551616) (hy : y < 18446744073709551616) :
    Calls Try.prog 14 #[.int .u64 (x : Int), .int .u64 (y : Int)] w (LawPost w) := by
  have HC := fun w => implCmp64 x y w hx hy
  have HNx := fun w => fnan64_any x w hx
  have HNy := fun w => fnan64_any y w hy
  by_cases nx : isNaN64 x = true
  · have e1 : cmpN x y = true := by simp [cmpN, nx]
    rw [nx] at HNx
    rw [e1] at HC
    generalize cmpR x y = c at HC
    have HC := Lib.hid HC
    have HN := Lib.hid HNx
    clear hx hy HNx HNy nx e1
    go_enter Try.func14, Try.ntmps14
    go_wp2_with fail
    refine (fmt64_any _).mono ?_
    rintro e w1 ⟨rfl, hb1⟩
    have B1 := Lib.hid hb1
    clear hb1
    go_wp2_with fail
    refine (HC.out _).mono ?_
    rintro e w2 ⟨rfl, rfl⟩
    have HS := Lib.hid (FB64.start0 w1)
    go_wp2_with fail
    refine (HN.out _).mono ?_
    rintro e w3 ⟨rfl, hb⟩
    have hs := FB64.step HS.out hb
    clear hb
    go_wp2_with fail
    go_ret
    exact ⟨rfl, below_trans' B1.out (FB64.below (by assumption))⟩
  have nx : isNaN64 x = false := by simpa using nx
  rw [nx] at HNx
  by_cases ny : isNaN64 y = true
  · have e1 : cmpN x y = true := by simp [cmpN, ny]
    rw [ny] at HNy
    rw [e1] at HC
    generalize cmpR x y = c at HC
    have HC := Lib.hid HC
    have HN := Lib.hid HNx
    have HM := Lib.hid HNy
    clear hx hy HNx HNy nx ny e1
    go_enter Try.func14, Try.ntmps14
    go_wp2_with fail
    refine (fmt64_any _).mono ?_
    rintro e w1 ⟨rfl, hb1⟩
    have B1 := Lib.hid hb1
    clear hb1
    go_wp2_with fail
    refine (HC.out _).mono ?_
    rintro e w2 ⟨rfl, rfl⟩
    have HS := Lib.hid (FB64.start0 w1)
    go_wp2_with fail
    refine (HN.out _).mono ?_
    rintro e w3 ⟨rfl, hb⟩
    have hs := FB64.step HS.out hb
    clear hb
    obtain ⟨c0, c1, c2, c3, c4, c5, c6⟩ := hs
    go_wp2_with fail
    refine (HM.out _).mono ?_
    rintro e w4 ⟨rfl, hb⟩
    obtain ⟨d0, d1, d2, d3, d4, d5, d6⟩ := FB64.step ⟨c0, c1, c2, c3, c4, c5, c6⟩ hb
    clear hb c0 c1 c2 c3 c4 c5 c6
    go_wp2_with fail
    go_ret
    exact ⟨rfl, below_trans' B1.out d6⟩
  have ny : isNaN64 y = false := by simpa using ny
  rw [ny] at HNy
  have e1 : cmpN x y = false := by simp [cmpN, nx, ny]
  have e2 : cmpR x y = cmpS64 x y := by
    have : cmpR x y = cmpF64 x y := if_neg (by rw [e1]; decide)
    rw [this, cmpF_S hx hy]
  rw [e1, e2] at HC
  have HS := fun w => fcmpS64_any x y w hx hy
  have e3 := cmpS_bd x y
  generalize cmpS64 x y = c at *
  have e4 : IntKind.i64.wrap c = c := IntWalk.i64_in _ (by omega)
  have HC := Lib.hid HC
  have HN := Lib.hid HNx
  have HM := Lib.hid HNy
  have HK := Lib.hid HS
  clear hx hy HNx HNy nx ny e1 e2 e3 HS
  go_enter Try.func14, Try.ntmps14
  go_wp2_with fail
  refine (fmt64_any _).mono ?_
  rintro e w1 ⟨rfl, hb1⟩
  have B1 := Lib.hid hb1
  clear hb1
  go_wp2_with fail
  refine (HC.out _).mono ?_
  rintro e w2 ⟨rfl, rfl⟩
  have HS := Lib.hid (FB64.start0 w1)
  go_wp2_with fail
  refine (HN.out _).mono ?_
  rintro e w3 ⟨rfl, hb⟩
  have hs := FB64.step HS.out hb
  clear hb
  obtain ⟨c0, c1, c2, c3, c4, c5, c6⟩ := hs
  go_wp2_with fail
  refine (HM.out _).mono ?_
  rintro e w4 ⟨rfl, hb⟩
  obtain ⟨d0, d1, d2, d3, d4, d5, d6⟩ := FB64.step ⟨c0, c1, c2, c3, c4, c5, c6⟩ hb
  clear hb c0 c1 c2 c3 c4 c5 c6
  go_wp2_with fail
  refine (HK.out _).mono ?_
  rintro e w5 ⟨rfl, hb⟩
  have hs5 := FB64.step ⟨d0, d1, d2, d3, d4, d5, d6⟩ hb
  clear hb d0 d1 d2 d3 d4 d5 d6
  go_wp2_with fail
  go_ret
  exact ⟨rfl, below_trans' B1.out (FB64.below (by assumption))⟩
end Go.Proofs.Ythbdijmoohfomaa.SF
