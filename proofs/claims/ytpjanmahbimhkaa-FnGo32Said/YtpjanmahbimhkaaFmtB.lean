/-
  The walks through the reference's formats: infinities, the size of a finite number, signs.
-/
import Derived.Test.YtpjanmahbimhkaaFmt
namespace Go.Proofs.Ytpjanmahbimhkaa.SF
open Go.ChangeShapes Go.WideShapes Go.ChangeAt Go.RowKit
set_option linter.unusedVariables false

set_option maxRecDepth 100000 in
theorem finf64_any (x : Nat) (w : World) (hx : x < 18446744073709551616) : Calls Try.prog 32 #[.agg #[.int .i64 53, .int .i64 52, .int .i64 (-1074), .int .u64 2047, .int .u64 9223372036854775808], .int .u64 (x : Int)] w (RetB (.bool (isInf64 x)) w) := by
  have HE := Lib.hid fun w => fexp64_any x w hx
  have HF := Lib.hid fun w => ffrac64_any x w hx
  have h1 := mag_fe64 x
  have h2 := fe_lt64 x
  have h3 := ff_lt64 x
  have HS := Lib.hid (FB64.start w)
  generalize hEd : fe64 x = E at HE h1 h2
  generalize hFd : ff64 x = f at HF h1 h3
  by_cases hE : E = 2047
  · have e1 : ((E : Int) == 2047) = true := by simp [hE]
    have e2 : ((f : Int) == 0) = isInf64 x := by
      unfold isInf64
      rw [Bool.eq_iff_iff]
      simp only [beq_iff_eq, decide_eq_true_eq]
      omega
    generalize isInf64 x = R at e2 ⊢
    clear hx h1 h2 h3 hE hEd hFd
    go_enter Try.func32, Try.ntmps32
    go_wp2_with fail
    go_region_held3 (fun w' => FB64 w w') (first | assumption | exact HS.out) (first | (go_at_call 65; refine (HE.out _).mono ?_; rintro e w1 ⟨rfl, hb⟩; have hs := FB64.step (w := w) (by assumption) hb; clear hb) | (go_at_call 66; refine (HF.out _).mono ?_; rintro e w2 ⟨rfl, hb⟩; have hs2 := FB64.step (w := w) (by assumption) hb; clear hb))
    go_wp2_with fail
    go_ret
    exact ⟨by rw [← e2]; rfl, FB64.below (by assumption)⟩
  · have e1 : ((E : Int) == 2047) = false := beq_eq_false_iff_ne.mpr (by omega)
    have e2 : isInf64 x = false := by
      unfold isInf64
      simp only [decide_eq_false_iff_not]
      omega
    rw [e2]
    clear hx h1 h2 h3 hE hEd hFd
    go_enter Try.func32, Try.ntmps32
    go_wp2_with fail
    first
      | go_region_with (go_at_call 65; refine (HE.out _).mono ?_; rintro e w1 ⟨rfl, hb⟩; obtain ⟨c0, c1, c2, c3, c4, c5, c6⟩ := FB64.step HS.out hb; clear hb)
      | fail
    all_goals
      go_wp2_with fail
      go_ret
      exact ⟨rfl, by assumption⟩
set_option maxRecDepth 100000 in
theorem fsize64_any (x : Nat) (w : World) (hx : x < 18446744073709551616) : Calls Try.prog 34 #[.agg #[.int .i64 53, .int .i64 52, .int .i64 (-1074), .int .u64 2047, .int .u64 9223372036854775808], .int .u64 (x : Int)] w (RetB (.tuple #[.int .u64 ((sm64 x : Nat) : Int), .int .i64 (-1074 + (se64 x : Int))]) w) := by
  have HE := Lib.hid fun w => fexp64_any x w hx
  have HF := Lib.hid fun w => ffrac64_any x w hx
  have h2 := fe_lt64 x
  have h3 := ff_lt64 x
  have HS := Lib.hid (FB64.start0 w)
  unfold sm64 se64
  generalize hEd : fe64 x = E at HE h2 ⊢
  generalize hFd : ff64 x = f at HF h3 ⊢
  by_cases hE : E = 0
  · have e1 : ((E : Int) == 0) = true := by simp [hE]
    rw [if_pos hE, hE]
    clear hx h2 h3 hE hEd hFd
    go_enter Try.func34, Try.ntmps34
    go_wp2_with fail
    refine (HE.out _).mono ?_
    rintro e w1 ⟨rfl, hb⟩
    have HS1 := Lib.hid (FB64.step HS.out hb).drew
    clear hb
    go_wp2_with fail
    go_region_held3 (fun w' => FB64 w w') (first | assumption | exact HS1.out) (first | (go_at_call 66; refine (HF.out _).mono ?_; rintro e w2 ⟨rfl, hb⟩; have hs2 := FB64.step (w := w) (by assumption) hb; clear hb))
    go_wp2_with fail
    go_ret2
    exact ⟨rfl, FB64.below (by assumption)⟩
  · have e1 : ((E : Int) == 0) = false := beq_eq_false_iff_ne.mpr (by omega)
    rw [if_neg hE]
    have eo : bits .or .u64 (4503599627370496 : Int) (f : Int) = ((4503599627370496 + f : Nat) : Int) := by
      rw [show (4503599627370496 : Int) = ((4503599627370496 : Nat) : Int) from rfl, u64_or_nat _ _ (by omega) (by omega), or_disjoint _ _ 52 (by omega) (by omega)]
    have eP : IntKind.u64.wrap (4503599627370496 : Int) = 4503599627370496 := by rw [IntKind.wrap_u64]; rfl
    have s0 : IntKind.i64.wrap (E : Int) = (E : Int) := IntWalk.i64_in _ (by omega)
    have s1 : IntKind.i64.wrap (-1074 + (E : Int)) = -1074 + (E : Int) := IntWalk.i64_in _ (by omega)
    have s2 : IntKind.i64.wrap (-1074 + (E : Int) - 1) = -1074 + ((E - 1 : Nat) : Int) := by
      rw [IntWalk.i64_in _ (by omega)]; omega
    generalize E - 1 = E1 at *
    clear hx hE hEd hFd h3
    go_enter Try.func34, Try.ntmps34
    go_wp2_with fail
    refine (HE.out _).mono ?_
    rintro e w1 ⟨rfl, hb⟩
    have HS1 := Lib.hid (FB64.step HS.out hb).drew
    clear hb
    go_wp2_with fail
    go_region_held3 (fun w' => FB64 w w') (first | assumption | exact HS1.out) (first | (go_at_call 66; refine (HF.out _).mono ?_; rintro e w2 ⟨rfl, hb⟩; have hs2 := FB64.step (w := w) (by assumption) hb; clear hb) | (go_at_call 65; refine (HE.out _).mono ?_; rintro e w3 ⟨rfl, hb⟩; have hs3 := FB64.step (w := w) (by assumption) hb; clear hb))
    go_wp2_with fail
    go_ret2
    exact ⟨rfl, FB64.below (by assumption)⟩
set_option maxRecDepth 100000 in
theorem finf32_any (x : Nat) (w : World) (hx : x < 4294967296) : Calls Try.prog 32 #[.agg #[.int .i64 24, .int .i64 23, .int .i64 (-149), .int .u64 255, .int .u64 2147483648], .int .u64 (x : Int)] w (RetB (.bool (isInf32 x)) w) := by
  have HE := Lib.hid fun w => fexp32_any x w hx
  have HF := Lib.hid fun w => ffrac32_any x w hx
  have h1 := mag_fe32 x
  have h2 := fe_lt32 x
  have h3 := ff_lt32 x
  have HS := Lib.hid (FB32.start w)
  generalize hEd : fe32 x = E at HE h1 h2
  generalize hFd : ff32 x = f at HF h1 h3
  by_cases hE : E = 255
  · have e1 : ((E : Int) == 255) = true := by simp [hE]
    have e2 : ((f : Int) == 0) = isInf32 x := by
      unfold isInf32
      rw [Bool.eq_iff_iff]
      simp only [beq_iff_eq, decide_eq_true_eq]
      omega
    generalize isInf32 x = R at e2 ⊢
    clear hx h1 h2 h3 hE hEd hFd
    go_enter Try.func32, Try.ntmps32
    go_wp2_with fail
    go_region_held3 (fun w' => FB32 w w') (first | assumption | exact HS.out) (first | (go_at_call 65; refine (HE.out _).mono ?_; rintro e w1 ⟨rfl, hb⟩; have hs := FB32.step (w := w) (by assumption) hb; clear hb) | (go_at_call 66; refine (HF.out _).mono ?_; rintro e w2 ⟨rfl, hb⟩; have hs2 := FB32.step (w := w) (by assumption) hb; clear hb))
    go_wp2_with fail
    go_ret
    exact ⟨by rw [← e2]; rfl, FB32.below (by assumption)⟩
  · have e1 : ((E : Int) == 255) = false := beq_eq_false_iff_ne.mpr (by omega)
    have e2 : isInf32 x = false := by
      unfold isInf32
      simp only [decide_eq_false_iff_not]
      omega
    rw [e2]
    clear hx h1 h2 h3 hE hEd hFd
    go_enter Try.func32, Try.ntmps32
    go_wp2_with fail
    first
      | go_region_with (go_at_call 65; refine (HE.out _).mono ?_; rintro e w1 ⟨rfl, hb⟩; obtain ⟨c0, c1, c2, c3, c4, c5, c6⟩ := FB32.step HS.out hb; clear hb)
      | fail
    all_goals
      go_wp2_with fail
      go_ret
      exact ⟨rfl, by assumption⟩
set_option maxRecDepth 100000 in
theorem fsize32_any (x : Nat) (w : World) (hx : x < 4294967296) : Calls Try.prog 34 #[.agg #[.int .i64 24, .int .i64 23, .int .i64 (-149), .int .u64 255, .int .u64 2147483648], .int .u64 (x : Int)] w (RetB (.tuple #[.int .u64 ((sm32 x : Nat) : Int), .int .i64 (-149 + (se32 x : Int))]) w) := by
  have HE := Lib.hid fun w => fexp32_any x w hx
  have HF := Lib.hid fun w => ffrac32_any x w hx
  have h2 := fe_lt32 x
  have h3 := ff_lt32 x
  have HS := Lib.hid (FB32.start0 w)
  unfold sm32 se32
  generalize hEd : fe32 x = E at HE h2 ⊢
  generalize hFd : ff32 x = f at HF h3 ⊢
  by_cases hE : E = 0
  · have e1 : ((E : Int) == 0) = true := by simp [hE]
    rw [if_pos hE, hE]
    clear hx h2 h3 hE hEd hFd
    go_enter Try.func34, Try.ntmps34
    go_wp2_with fail
    refine (HE.out _).mono ?_
    rintro e w1 ⟨rfl, hb⟩
    have HS1 := Lib.hid (FB32.step HS.out hb).drew
    clear hb
    go_wp2_with fail
    go_region_held3 (fun w' => FB32 w w') (first | assumption | exact HS1.out) (first | (go_at_call 66; refine (HF.out _).mono ?_; rintro e w2 ⟨rfl, hb⟩; have hs2 := FB32.step (w := w) (by assumption) hb; clear hb))
    go_wp2_with fail
    go_ret2
    exact ⟨rfl, FB32.below (by assumption)⟩
  · have e1 : ((E : Int) == 0) = false := beq_eq_false_iff_ne.mpr (by omega)
    rw [if_neg hE]
    have eo : bits .or .u64 (8388608 : Int) (f : Int) = ((8388608 + f : Nat) : Int) := by
      rw [show (8388608 : Int) = ((8388608 : Nat) : Int) from rfl, u64_or_nat _ _ (by omega) (by omega), or_disjoint _ _ 23 (by omega) (by omega)]
    have eP : IntKind.u64.wrap (8388608 : Int) = 8388608 := by rw [IntKind.wrap_u64]; rfl
    have s0 : IntKind.i64.wrap (E : Int) = (E : Int) := IntWalk.i64_in _ (by omega)
    have s1 : IntKind.i64.wrap (-149 + (E : Int)) = -149 + (E : Int) := IntWalk.i64_in _ (by omega)
    have s2 : IntKind.i64.wrap (-149 + (E : Int) - 1) = -149 + ((E - 1 : Nat) : Int) := by
      rw [IntWalk.i64_in _ (by omega)]; omega
    generalize E - 1 = E1 at *
    clear hx hE hEd hFd h3
    go_enter Try.func34, Try.ntmps34
    go_wp2_with fail
    refine (HE.out _).mono ?_
    rintro e w1 ⟨rfl, hb⟩
    have HS1 := Lib.hid (FB32.step HS.out hb).drew
    clear hb
    go_wp2_with fail
    go_region_held3 (fun w' => FB32 w w') (first | assumption | exact HS1.out) (first | (go_at_call 66; refine (HF.out _).mono ?_; rintro e w2 ⟨rfl, hb⟩; have hs2 := FB32.step (w := w) (by assumption) hb; clear hb) | (go_at_call 65; refine (HE.out _).mono ?_; rintro e w3 ⟨rfl, hb⟩; have hs3 := FB32.step (w := w) (by assumption) hb; clear hb))
    go_wp2_with fail
    go_ret2
    exact ⟨rfl, FB32.below (by assumption)⟩
end Go.Proofs.Ytpjanmahbimhkaa.SF
