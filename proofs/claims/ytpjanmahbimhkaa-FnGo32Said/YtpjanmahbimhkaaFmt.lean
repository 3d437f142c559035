/-
  The walks through the reference's formats: the fields of bits, and what they are.
-/
import Derived.Test.YtpjanmahbimhkaaNatV
import Derived.Test.YtpjanmahbimhkaaDefs
import Derived.Deep.RegionHeld3
namespace Go.Proofs.Ytpjanmahbimhkaa.SF
open Go.ChangeShapes Go.WideShapes Go.ChangeAt Go.RowKit
set_option linter.unusedVariables false

theorem below_drewN {B : Nat} {a w : World} (h : Below B a w) (n : Nat) : Below B a (w.drewN n) := ⟨h.os, h.tape, h.output, h.size, h.block⟩
theorem bcell {W w1 : World} (hb : Below W.heap.size W w1) : ∀ b o, b < W.heap.size → w1.cell? ⟨b, o, none⟩ = W.cell? ⟨b, o, none⟩ := fun b o h => hb.cell (p := ⟨b, o, none⟩) h
/-- v is returned; nothing that was there has turned -/
def RetB (v : Value) (w : World) : Ending → World → Prop := fun e w' => e = .returned v ∧ Below w.heap.size w w'

abbrev FB64 (w w' : World) : Prop := w'.cell? ⟨w.heap.size, 0, none⟩ = some (.int .i64 53) ∧ w'.cell? ⟨w.heap.size, 1, none⟩ = some (.int .i64 52) ∧ w'.cell? ⟨w.heap.size, 2, none⟩ = some (.int .i64 (-1074)) ∧ w'.cell? ⟨w.heap.size, 3, none⟩ = some (.int .u64 2047) ∧ w'.cell? ⟨w.heap.size, 4, none⟩ = some (.int .u64 9223372036854775808) ∧ w.heap.size < w'.heap.size ∧ Below w.heap.size w w'
theorem FB64.start0 (w : World) : FB64 w (w.alloc (.cells #[.int .i64 53, .int .i64 52, .int .i64 (-1074), .int .u64 2047, .int .u64 9223372036854775808] 39)) :=
  ⟨by simp, by simp, by simp, by simp, by simp, by simp, (Below.refl _ _).alloc (Nat.le_refl _) _⟩
theorem FB64.drew {w W : World} (h : FB64 w W) : FB64 w W.drew := ⟨h.1, h.2.1, h.2.2.1, h.2.2.2.1, h.2.2.2.2.1, h.2.2.2.2.2.1, h.2.2.2.2.2.2.drew⟩
theorem FB64.start (w : World) : FB64 w (w.alloc (.cells #[.int .i64 53, .int .i64 52, .int .i64 (-1074), .int .u64 2047, .int .u64 9223372036854775808] 39)).drew := (FB64.start0 w).drew
theorem FB64.drewN {w W : World} (h : FB64 w W) (n : Nat) : FB64 w (W.drewN n) := ⟨h.1, h.2.1, h.2.2.1, h.2.2.2.1, h.2.2.2.2.1, h.2.2.2.2.2.1, below_drewN h.2.2.2.2.2.2 n⟩
theorem FB64.step {w W w1 : World} (h : FB64 w W) (hb : Below W.heap.size W w1) : FB64 w w1 := by
  obtain ⟨h0, h1, h2, h3, h4, h5, h6⟩ := h
  have hc := bcell hb
  exact ⟨(hc _ _ h5).trans h0, (hc _ _ h5).trans h1, (hc _ _ h5).trans h2, (hc _ _ h5).trans h3, (hc _ _ h5).trans h4, Nat.lt_of_lt_of_le h5 hb.size, h6.trans (hb.mono (by omega))⟩
theorem FB64.below {w W : World} (h : FB64 w W) : Below w.heap.size w W := h.2.2.2.2.2.2

theorem fe_bits64 {x : Nat} (hx : x < 18446744073709551616) : bits .and .u64 ((x : Int) / 4503599627370496) 2047 = ((fe64 x : Nat) : Int) := by
  have c : (x : Int) / 4503599627370496 = ((x / 4503599627370496 : Nat) : Int) := by omega
  rw [c, show (2047 : Int) = ((2047 : Nat) : Int) from rfl, u64_and_nat _ _ (by omega) (by omega), nat_mask11]
  unfold fe64 mag64
  congr 1
  omega
theorem ff_bits64 {x : Nat} (hx : x < 18446744073709551616) : bits .and .u64 (x : Int) 4503599627370495 = ((ff64 x : Nat) : Int) := by
  rw [show (4503599627370495 : Int) = ((4503599627370495 : Nat) : Int) from rfl, u64_and_nat _ _ (by omega) (by omega), nat_mask52]
  unfold ff64 mag64
  congr 1
  omega

set_option maxRecDepth 100000 in
theorem fmt64_any (w : World) : Calls Try.prog 27 #[] w (RetB (.agg #[.int .i64 53, .int .i64 52, .int .i64 (-1074), .int .u64 2047, .int .u64 9223372036854775808]) w) := by
  go_enter Try.func27, Try.ntmps27
  go_wp2_with fail
  refine bodyPost_ret (v := .agg #[.int .i64 53, .int .i64 52, .int .i64 (-1074), .int .u64 2047, .int .u64 9223372036854775808]) (by simp [results, Try.results27, go_sem]) rfl ⟨rfl, (Below.refl _ _).alloc (Nat.le_refl _) _⟩
set_option maxRecDepth 100000 in
theorem fexp64_any (x : Nat) (w : World) (hx : x < 18446744073709551616) : Calls Try.prog 65 #[.agg #[.int .i64 53, .int .i64 52, .int .i64 (-1074), .int .u64 2047, .int .u64 9223372036854775808], .int .u64 (x : Int)] w (RetB (.int .u64 ((fe64 x : Nat) : Int)) w) := by
  have e := fe_bits64 hx
  generalize fe64 x = E at e ⊢
  clear hx
  go_enter Try.func65, Try.ntmps65
  go_wp2_with fail
  go_quiet (fail)
  go_wp2_with fail
  go_ret
  exact ⟨rfl, below_drewN ((Below.refl _ _).alloc (Nat.le_refl _) _) _⟩
set_option maxRecDepth 100000 in
theorem ffrac64_any (x : Nat) (w : World) (hx : x < 18446744073709551616) : Calls Try.prog 66 #[.agg #[.int .i64 53, .int .i64 52, .int .i64 (-1074), .int .u64 2047, .int .u64 9223372036854775808], .int .u64 (x : Int)] w (RetB (.int .u64 ((ff64 x : Nat) : Int)) w) := by
  have e := ff_bits64 hx
  generalize ff64 x = E at e ⊢
  clear hx
  go_enter Try.func66, Try.ntmps66
  go_wp2_with fail
  go_ret
  exact ⟨rfl, (Below.refl _ _).alloc (Nat.le_refl _) _⟩
theorem fin_fe64 (x : Nat) : (((fe64 x : Nat) : Int) != 2047) = fin64 x := by
  have h1 := mag_fe64 x
  have h2 := fe_lt64 x
  have h3 := ff_lt64 x
  unfold fin64
  rw [Bool.eq_iff_iff]
  simp only [bne_iff_ne, ne_eq, decide_eq_true_eq]
  omega
set_option maxRecDepth 100000 in
theorem ffin64_any (x : Nat) (w : World) (hx : x < 18446744073709551616) : Calls Try.prog 28 #[.agg #[.int .i64 53, .int .i64 52, .int .i64 (-1074), .int .u64 2047, .int .u64 9223372036854775808], .int .u64 (x : Int)] w (RetB (.bool (fin64 x)) w) := by
  have HE := Lib.hid fun w => fexp64_any x w hx
  have e := fin_fe64 x
  generalize fe64 x = E at HE e
  generalize fin64 x = R at e ⊢
  have HS := Lib.hid (FB64.start w)
  clear hx
  go_enter Try.func28, Try.ntmps28
  go_wp2_with fail
  go_region_held3 (fun w' => FB64 w w') (first | assumption | exact HS.out) (first | (go_at_call 65; refine (HE.out _).mono ?_; rintro e w1 ⟨rfl, hb⟩; have hs := FB64.step (w := w) (by assumption) hb; clear hb))
  go_wp2_with fail
  go_ret
  exact ⟨by rw [← e]; rfl, FB64.below (by assumption)⟩
set_option maxRecDepth 100000 in
theorem fzero64_any (x : Nat) (w : World) (hx : x < 18446744073709551616) : Calls Try.prog 29 #[.agg #[.int .i64 53, .int .i64 52, .int .i64 (-1074), .int .u64 2047, .int .u64 9223372036854775808], .int .u64 (x : Int)] w (RetB (.bool (isZero64 x)) w) := by
  have HE := Lib.hid fun w => fexp64_any x w hx
  have HF := Lib.hid fun w => ffrac64_any x w hx
  have h1 := mag_fe64 x
  have HS := Lib.hid (FB64.start0 w)
  generalize hEd : fe64 x = E at HE h1
  generalize hFd : ff64 x = f at HF h1
  by_cases hE : E = 0
  · have e1 : ((E : Int) == 0) = true := by simp [hE]
    have e2 : ((f : Int) == 0) = isZero64 x := by
      unfold isZero64
      rw [Bool.eq_iff_iff]
      simp only [beq_iff_eq, decide_eq_true_eq]
      omega
    generalize isZero64 x = R at e2 ⊢
    clear hx h1 hE hEd hFd
    go_enter Try.func29, Try.ntmps29
    go_wp2_with fail
    refine (HE.out _).mono ?_
    rintro e w1 ⟨rfl, hb⟩
    have hs := FB64.step HS.out hb
    clear hb
    obtain ⟨c0, c1, c2, c3, c4, c5, c6⟩ := hs
    have HS1 := Lib.hid (show FB64 w w1 from ⟨c0, c1, c2, c3, c4, c5, c6⟩)
    clear c5 c6
    go_wp2_with fail
    refine (HF.out _).mono ?_
    rintro e w2 ⟨rfl, hb⟩
    have HS2 := Lib.hid (FB64.step HS1.out hb)
    clear hb
    go_wp2_with fail
    go_ret
    exact ⟨by rw [← e2]; rfl, FB64.below HS2.out⟩
  · have e1 : ((E : Int) == 0) = false := beq_eq_false_iff_ne.mpr (by omega)
    have e2 : isZero64 x = false := by
      unfold isZero64
      simp only [decide_eq_false_iff_not]
      omega
    rw [e2]
    clear hx h1 hE hEd hFd
    go_enter Try.func29, Try.ntmps29
    go_wp2_with fail
    refine (HE.out _).mono ?_
    rintro e w1 ⟨rfl, hb⟩
    have HS1 := Lib.hid (FB64.step HS.out hb)
    clear hb
    go_wp2_with fail
    go_ret
    exact ⟨rfl, FB64.below HS1.out⟩
set_option maxRecDepth 100000 in
theorem fnan64_any (x : Nat) (w : World) (hx : x < 18446744073709551616) : Calls Try.prog 33 #[.agg #[.int .i64 53, .int .i64 52, .int .i64 (-1074), .int .u64 2047, .int .u64 9223372036854775808], .int .u64 (x : Int)] w (RetB (.bool (isNaN64 x)) w) := by
  have HE := Lib.hid fun w => fexp64_any x w hx
  have HF := Lib.hid fun w => ffrac64_any x w hx
  have h1 := mag_fe64 x
  have h2 := fe_lt64 x
  have h3 := ff_lt64 x
  have HS := Lib.hid (FB64.start w)
  generalize hEd : fe64 x = E at HE h1 h2
  generalize hFd : ff64 x = f at HF h1 h3
  by_cases hE : E = 2047
  · have e1 : ((E : Int) == 2047) = true := by simp [hE]
    have e2 : ((f : Int) != 0) = isNaN64 x := by
      unfold isNaN64
      rw [Bool.eq_iff_iff]
      simp only [bne_iff_ne, ne_eq, decide_eq_true_eq]
      omega
    generalize isNaN64 x = R at e2 ⊢
    clear hx h1 h2 h3 hE hEd hFd
    go_enter Try.func33, Try.ntmps33
    go_wp2_with fail
    go_region_held3 (fun w' => FB64 w w') (first | assumption | exact HS.out) (first | (go_at_call 65; refine (HE.out _).mono ?_; rintro e w1 ⟨rfl, hb⟩; have hs := FB64.step (w := w) (by assumption) hb; clear hb) | (go_at_call 66; refine (HF.out _).mono ?_; rintro e w2 ⟨rfl, hb⟩; have hs2 := FB64.step (w := w) (by assumption) hb; clear hb))
    go_wp2_with fail
    go_ret
    exact ⟨by rw [← e2]; rfl, FB64.below (by assumption)⟩
  · have e1 : ((E : Int) == 2047) = false := beq_eq_false_iff_ne.mpr (by omega)
    have e2 : isNaN64 x = false := by
      unfold isNaN64
      simp only [decide_eq_false_iff_not]
      omega
    rw [e2]
    clear hx h1 h2 h3 hE hEd hFd
    go_enter Try.func33, Try.ntmps33
    go_wp2_with fail
    first
      | go_region_with (go_at_call 65; refine (HE.out _).mono ?_; rintro e w1 ⟨rfl, hb⟩; obtain ⟨c0, c1, c2, c3, c4, c5, c6⟩ := FB64.step HS.out hb; clear hb)
      | fail
    all_goals
      go_wp2_with fail
      go_ret
      exact ⟨rfl, by assumption⟩
abbrev FB32 (w w' : World) : Prop := w'.cell? ⟨w.heap.size, 0, none⟩ = some (.int .i64 24) ∧ w'.cell? ⟨w.heap.size, 1, none⟩ = some (.int .i64 23) ∧ w'.cell? ⟨w.heap.size, 2, none⟩ = some (.int .i64 (-149)) ∧ w'.cell? ⟨w.heap.size, 3, none⟩ = some (.int .u64 255) ∧ w'.cell? ⟨w.heap.size, 4, none⟩ = some (.int .u64 2147483648) ∧ w.heap.size < w'.heap.size ∧ Below w.heap.size w w'
theorem FB32.start0 (w : World) : FB32 w (w.alloc (.cells #[.int .i64 24, .int .i64 23, .int .i64 (-149), .int .u64 255, .int .u64 2147483648] 39)) :=
  ⟨by simp, by simp, by simp, by simp, by simp, by simp, (Below.refl _ _).alloc (Nat.le_refl _) _⟩
theorem FB32.drew {w W : World} (h : FB32 w W) : FB32 w W.drew := ⟨h.1, h.2.1, h.2.2.1, h.2.2.2.1, h.2.2.2.2.1, h.2.2.2.2.2.1, h.2.2.2.2.2.2.drew⟩
theorem FB32.start (w : World) : FB32 w (w.alloc (.cells #[.int .i64 24, .int .i64 23, .int .i64 (-149), .int .u64 255, .int .u64 2147483648] 39)).drew := (FB32.start0 w).drew
theorem FB32.drewN {w W : World} (h : FB32 w W) (n : Nat) : FB32 w (W.drewN n) := ⟨h.1, h.2.1, h.2.2.1, h.2.2.2.1, h.2.2.2.2.1, h.2.2.2.2.2.1, below_drewN h.2.2.2.2.2.2 n⟩
theorem FB32.step {w W w1 : World} (h : FB32 w W) (hb : Below W.heap.size W w1) : FB32 w w1 := by
  obtain ⟨h0, h1, h2, h3, h4, h5, h6⟩ := h
  have hc := bcell hb
  exact ⟨(hc _ _ h5).trans h0, (hc _ _ h5).trans h1, (hc _ _ h5).trans h2, (hc _ _ h5).trans h3, (hc _ _ h5).trans h4, Nat.lt_of_lt_of_le h5 hb.size, h6.trans (hb.mono (by omega))⟩
theorem FB32.below {w W : World} (h : FB32 w W) : Below w.heap.size w W := h.2.2.2.2.2.2

theorem fe_bits32 {x : Nat} (hx : x < 4294967296) : bits .and .u64 ((x : Int) / 8388608) 255 = ((fe32 x : Nat) : Int) := by
  have c : (x : Int) / 8388608 = ((x / 8388608 : Nat) : Int) := by omega
  rw [c, show (255 : Int) = ((255 : Nat) : Int) from rfl, u64_and_nat _ _ (by omega) (by omega), nat_mask8]
  unfold fe32 mag32
  congr 1
  omega
theorem ff_bits32 {x : Nat} (hx : x < 4294967296) : bits .and .u64 (x : Int) 8388607 = ((ff32 x : Nat) : Int) := by
  rw [show (8388607 : Int) = ((8388607 : Nat) : Int) from rfl, u64_and_nat _ _ (by omega) (by omega), nat_mask23]
  unfold ff32 mag32
  congr 1
  omega

set_option maxRecDepth 100000 in
theorem fmt32_any (w : World) : Calls Try.prog 30 #[] w (RetB (.agg #[.int .i64 24, .int .i64 23, .int .i64 (-149), .int .u64 255, .int .u64 2147483648]) w) := by
  go_enter Try.func30, Try.ntmps30
  go_wp2_with fail
  refine bodyPost_ret (v := .agg #[.int .i64 24, .int .i64 23, .int .i64 (-149), .int .u64 255, .int .u64 2147483648]) (by simp [results, Try.results30, go_sem]) rfl ⟨rfl, (Below.refl _ _).alloc (Nat.le_refl _) _⟩
set_option maxRecDepth 100000 in
theorem fexp32_any (x : Nat) (w : World) (hx : x < 4294967296) : Calls Try.prog 65 #[.agg #[.int .i64 24, .int .i64 23, .int .i64 (-149), .int .u64 255, .int .u64 2147483648], .int .u64 (x : Int)] w (RetB (.int .u64 ((fe32 x : Nat) : Int)) w) := by
  have e := fe_bits32 hx
  generalize fe32 x = E at e ⊢
  clear hx
  go_enter Try.func65, Try.ntmps65
  go_wp2_with fail
  go_quiet (fail)
  go_wp2_with fail
  go_ret
  exact ⟨rfl, below_drewN ((Below.refl _ _).alloc (Nat.le_refl _) _) _⟩
set_option maxRecDepth 100000 in
theorem ffrac32_any (x : Nat) (w : World) (hx : x < 4294967296) : Calls Try.prog 66 #[.agg #[.int .i64 24, .int .i64 23, .int .i64 (-149), .int .u64 255, .int .u64 2147483648], .int .u64 (x : Int)] w (RetB (.int .u64 ((ff32 x : Nat) : Int)) w) := by
  have e := ff_bits32 hx
  generalize ff32 x = E at e ⊢
  clear hx
  go_enter Try.func66, Try.ntmps66
  go_wp2_with fail
  go_ret
  exact ⟨rfl, (Below.refl _ _).alloc (Nat.le_refl _) _⟩
theorem fin_fe32 (x : Nat) : (((fe32 x : Nat) : Int) != 255) = fin32 x := by
  have h1 := mag_fe32 x
  have h2 := fe_lt32 x
  have h3 := ff_lt32 x
  unfold fin32
  rw [Bool.eq_iff_iff]
  simp only [bne_iff_ne, ne_eq, decide_eq_true_eq]
  omega
set_option maxRecDepth 100000 in
theorem ffin32_any (x : Nat) (w : World) (hx : x < 4294967296) : Calls Try.prog 28 #[.agg #[.int .i64 24, .int .i64 23, .int .i64 (-149), .int .u64 255, .int .u64 2147483648], .int .u64 (x : Int)] w (RetB (.bool (fin32 x)) w) := by
  have HE := Lib.hid fun w => fexp32_any x w hx
  have e := fin_fe32 x
  generalize fe32 x = E at HE e
  generalize fin32 x = R at e ⊢
  have HS := Lib.hid (FB32.start w)
  clear hx
  go_enter Try.func28, Try.ntmps28
  go_wp2_with fail
  go_region_held3 (fun w' => FB32 w w') (first | assumption | exact HS.out) (first | (go_at_call 65; refine (HE.out _).mono ?_; rintro e w1 ⟨rfl, hb⟩; have hs := FB32.step (w := w) (by assumption) hb; clear hb))
  go_wp2_with fail
  go_ret
  exact ⟨by rw [← e]; rfl, FB32.below (by assumption)⟩
set_option maxRecDepth 100000 in
theorem fzero32_any (x : Nat) (w : World) (hx : x < 4294967296) : Calls Try.prog 29 #[.agg #[.int .i64 24, .int .i64 23, .int .i64 (-149), .int .u64 255, .int .u64 2147483648], .int .u64 (x : Int)] w (RetB (.bool (isZero32 x)) w) := by
  have HE := Lib.hid fun w => fexp32_any x w hx
  have HF := Lib.hid fun w => ffrac32_any x w hx
  have h1 := mag_fe32 x
  have HS := Lib.hid (FB32.start0 w)
  generalize hEd : fe32 x = E at HE h1
  generalize hFd : ff32 x = f at HF h1
  by_cases hE : E = 0
  · have e1 : ((E : Int) == 0) = true := by simp [hE]
    have e2 : ((f : Int) == 0) = isZero32 x := by
      unfold isZero32
      rw [Bool.eq_iff_iff]
      simp only [beq_iff_eq, decide_eq_true_eq]
      omega
    generalize isZero32 x = R at e2 ⊢
    clear hx h1 hE hEd hFd
    go_enter Try.func29, Try.ntmps29
    go_wp2_with fail
    refine (HE.out _).mono ?_
    rintro e w1 ⟨rfl, hb⟩
    have hs := FB32.step HS.out hb
    clear hb
    obtain ⟨c0, c1, c2, c3, c4, c5, c6⟩ := hs
    have HS1 := Lib.hid (show FB32 w w1 from ⟨c0, c1, c2, c3, c4, c5, c6⟩)
    clear c5 c6
    go_wp2_with fail
    refine (HF.out _).mono ?_
    rintro e w2 ⟨rfl, hb⟩
    have HS2 := Lib.hid (FB32.step HS1.out hb)
    clear hb
    go_wp2_with fail
    go_ret
    exact ⟨by rw [← e2]; rfl, FB32.below HS2.out⟩
  · have e1 : ((E : Int) == 0) = false := beq_eq_false_iff_ne.mpr (by omega)
    have e2 : isZero32 x = false := by
      unfold isZero32
      simp only [decide_eq_false_iff_not]
      omega
    rw [e2]
    clear hx h1 hE hEd hFd
    go_enter Try.func29, Try.ntmps29
    go_wp2_with fail
    refine (HE.out _).mono ?_
    rintro e w1 ⟨rfl, hb⟩
    have HS1 := Lib.hid (FB32.step HS.out hb)
    clear hb
    go_wp2_with fail
    go_ret
    exact ⟨rfl, FB32.below HS1.out⟩
set_option maxRecDepth 100000 in
theorem fnan32_any (x : Nat) (w : World) (hx : x < 4294967296) : Calls Try.prog 33 #[.agg #[.int .i64 24, .int .i64 23, .int .i64 (-149), .int .u64 255, .int .u64 2147483648], .int .u64 (x : Int)] w (RetB (.bool (isNaN32 x)) w) := by
  have HE := Lib.hid fun w => fexp32_any x w hx
  have HF := Lib.hid fun w => ffrac32_any x w hx
  have h1 := mag_fe32 x
  have h2 := fe_lt32 x
  have h3 := ff_lt32 x
  have HS := Lib.hid (FB32.start w)
  generalize hEd : fe32 x = E at HE h1 h2
  generalize hFd : ff32 x = f at HF h1 h3
  by_cases hE : E = 255
  · have e1 : ((E : Int) == 255) = true := by simp [hE]
    have e2 : ((f : Int) != 0) = isNaN32 x := by
      unfold isNaN32
      rw [Bool.eq_iff_iff]
      simp only [bne_iff_ne, ne_eq, decide_eq_true_eq]
      omega
    generalize isNaN32 x = R at e2 ⊢
    clear hx h1 h2 h3 hE hEd hFd
    go_enter Try.func33, Try.ntmps33
    go_wp2_with fail
    go_region_held3 (fun w' => FB32 w w') (first | assumption | exact HS.out) (first | (go_at_call 65; refine (HE.out _).mono ?_; rintro e w1 ⟨rfl, hb⟩; have hs := FB32.step (w := w) (by assumption) hb; clear hb) | (go_at_call 66; refine (HF.out _).mono ?_; rintro e w2 ⟨rfl, hb⟩; have hs2 := FB32.step (w := w) (by assumption) hb; clear hb))
    go_wp2_with fail
    go_ret
    exact ⟨by rw [← e2]; rfl, FB32.below (by assumption)⟩
  · have e1 : ((E : Int) == 255) = false := beq_eq_false_iff_ne.mpr (by omega)
    have e2 : isNaN32 x = false := by
      unfold isNaN32
      simp only [decide_eq_false_iff_not]
      omega
    rw [e2]
    clear hx h1 h2 h3 hE hEd hFd
    go_enter Try.func33, Try.ntmps33
    go_wp2_with fail
    first
      | go_region_with (go_at_call 65; refine (HE.out _).mono ?_; rintro e w1 ⟨rfl, hb⟩; obtain ⟨c0, c1, c2, c3, c4, c5, c6⟩ := FB32.step HS.out hb; clear hb)
      | fail
    all_goals
      go_wp2_with fail
      go_ret
      exact ⟨rfl, by assumption⟩
end Go.Proofs.Ytpjanmahbimhkaa.SF
