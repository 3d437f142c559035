/-
  The walk through the reference's Convert.
-/
import Derived.Test.YteajgejpjodfbaaSpecR
namespace Go.Proofs.Yteajgejpjodfbaa.SF
open Go.ChangeShapes Go.WideShapes Go.ChangeAt Go.RowKit
set_option linter.unusedVariables false
theorem conv_num {m s L : Nat} {E : Int} (hE : E = (s : Int) - L) : m * 2 ^ s * numB 1 E = numA m E * 2 ^ L := by
  have := mul_num (m := m) (n := 1) (a := s) (b := 0) (L := L) (E := E) (by omega)
  rw [Nat.one_mul, Nat.pow_zero, Nat.mul_one, Nat.mul_one] at this
  exact this
theorem conv_num2 {m s L : Nat} {E : Int} (hE : E = (s : Int) + L) : m * 2 ^ s * 2 ^ L * numB 1 E = numA m E * 1 := by
  have := add_num (N := m) (lo := s + L) (E := E) (by omega)
  rw [Nat.pow_add, ← Nat.mul_assoc] at this
  exact this

abbrev CVA (w w' : World) : Prop := FB64 w w' ∧ w'.cell? ⟨w.heap.size + 1, 0, none⟩ = some (.int .i64 24) ∧ w'.cell? ⟨w.heap.size + 1, 1, none⟩ = some (.int .i64 23) ∧ w'.cell? ⟨w.heap.size + 1, 2, none⟩ = some (.int .i64 (-149)) ∧ w'.cell? ⟨w.heap.size + 1, 3, none⟩ = some (.int .u64 255) ∧ w'.cell? ⟨w.heap.size + 1, 4, none⟩ = some (.int .u64 2147483648) ∧ w.heap.size + 1 < w'.heap.size
theorem CVA.start0 (w : World) : CVA w ((w.alloc (.cells #[.int .i64 53, .int .i64 52, .int .i64 (-1074), .int .u64 2047, .int .u64 9223372036854775808] 24)).alloc (.cells #[.int .i64 24, .int .i64 23, .int .i64 (-149), .int .u64 255, .int .u64 2147483648] 24)) := by
  have hz : (w.alloc (.cells #[.int .i64 53, .int .i64 52, .int .i64 (-1074), .int .u64 2047, .int .u64 9223372036854775808] 24)).heap.size = w.heap.size + 1 := by simp
  have h := FB32.start0 (w.alloc (.cells #[.int .i64 53, .int .i64 52, .int .i64 (-1074), .int .u64 2047, .int .u64 9223372036854775808] 24))
  obtain ⟨a, b, c, d, e, f, g⟩ := h
  rw [hz] at a b c d e f
  exact ⟨FB64.step (FB64.start0 w) ((Below.refl _ _).alloc (Nat.le_refl _) _), a, b, c, d, e, f⟩
theorem CVA.step {w W w1 : World} (h : CVA w W) (hb : Below W.heap.size W w1) : CVA w w1 := by
  obtain ⟨h0, a, b, c, d, e, f⟩ := h
  have hc := bcell hb
  exact ⟨FB64.step h0 hb, (hc _ _ f).trans a, (hc _ _ f).trans b, (hc _ _ f).trans c, (hc _ _ f).trans d, (hc _ _ f).trans e, Nat.lt_of_lt_of_le f hb.size⟩
theorem CVA.drew {w W : World} (h : CVA w W) : CVA w W.drew := ⟨FB64.drew h.1, h.2⟩
theorem conv_roundA (x : Nat) (w : World) (va vb : Value) (ha : NatAt w va (sm64 x)) (hb : NatAt w vb 1) : Calls Try.prog 58 #[.agg #[.int .i64 24, .int .i64 23, .int .i64 (-149), .int .u64 255, .int .u64 2147483648], .bool (neg64 x), va, vb, .int .i64 (-1074 + (se64 x : Int))] w (RetB (.int .u64 ((rd32 (neg64 x) (val64 x) (2 ^ 925) : Nat) : Int)) w) := by
  have a := sm_lt64 x
  have c := se_lt64 x
  refine roundR32 w _ va vb _ 1 4 _ _ _ _ (by omega) rfl (by omega) (by omega) ha hb (pow_lt_K (n := sm64 x) (k := 64) (K := 4) (by omega) (by omega)) (one_lt_K (K := 4) (by omega)) (by omega) (two_pow_pos 925) ?_
  rw [val_sm64]
  exact conv_num (m := sm64 x) (s := se64 x) (L := 925) (by omega)
set_option maxRecDepth 100000 in
set_option maxHeartbeats 4000000 in
theorem fconvA_any (x : Nat) (w : World) (hx : x < 18446744073709551616) : Calls Try.prog 49 #[.agg #[.int .i64 53, .int .i64 52, .int .i64 (-1074), .int .u64 2047, .int .u64 9223372036854775808], .int .u64 (x : Int), .agg #[.int .i64 24, .int .i64 23, .int .i64 (-149), .int .u64 255, .int .u64 2147483648]] w (RetB (.tuple #[.int .u64 (((if isNaN64 x then 0 else narrow x) : Nat) : Int), .bool (!isNaN64 x)]) w) := by
  have NX := fun w => fnan64_any x w hx
  have IX := fun w => finf64_any x w hx
  have SX := fun w => fneg64_any x w hx
  have MX := fun w => fsize64_any x w hx
  have HS0 := Lib.hid (CVA.start0 w)
  cases nx : isNaN64 x
  · simp only [Bool.false_eq_true, if_false, Bool.not_false]
    rw [nx] at NX
    cases ix : isInf64 x
    · have er : narrow x = rd32 (neg64 x) (val64 x) (2 ^ 925) := by unfold narrow; rw [nx, ix]; simp only [Bool.false_eq_true, if_false]
      have RR := conv_roundA x
      have lx : sm64 x < 18446744073709551616 := by have := sm_lt64 x; omega
      rw [er]
      rw [ix] at IX
      generalize rd32 (neg64 x) (val64 x) (2 ^ 925) = R at *
      generalize sm64 x = mx at *
      generalize se64 x = dx at *
      generalize neg64 x = sx at *
      have NX := Lib.hid NX
      have IX := Lib.hid IX
      have SX := Lib.hid SX
      have MX := Lib.hid MX
      have RR := Lib.hid RR
      have LX := Lib.hid lx
      clear hx nx ix er lx
      go_enter Try.func49, Try.ntmps49
      go_wp2_with fail
      refine (NX.out _).mono ?_
      rintro e v1 ⟨rfl, hb⟩
      have hs := CVA.step HS0.out hb
      have HS1 := Lib.hid hs
      clear hb
      obtain ⟨⟨c0, c1, c2, c3, c4, c5, c6⟩, d⟩ := hs
      clear c5 c6 d
      go_wp2_with fail
      refine (IX.out _).mono ?_
      rintro e v2 ⟨rfl, hb⟩
      have hs := CVA.step HS1.out hb
      have HS2 := Lib.hid hs
      clear hb c0 c1 c2 c3 c4
      obtain ⟨⟨c0, c1, c2, c3, c4, c5, c6⟩, d⟩ := hs
      clear c5 c6 d
      go_wp2_with fail
      refine (MX.out _).mono ?_
      rintro e v3 ⟨rfl, hb⟩
      have HD := Lib.hid (CVA.drew (CVA.step HS2.out hb))
      clear hb c0 c1 c2 c3 c4
      go_wp2_with fail
      go_region_held3 (fun w' => CVA w w') (first | assumption | exact HD.out) (first | (go_at_call 18; (with_reducible refine (SX.out _).mono ?_); rintro e a0 ⟨rfl, b0⟩; have hs := CVA.step (w := w) (by assumption) b0) | (go_at_call 52; (with_reducible refine (natOf_any _ mx LX.out).mono ?_); rintro e a1 ⟨va, rfl, na, ba⟩; have hs := CVA.step (w := w) (by assumption) ba) | (go_at_call 59; (with_reducible refine (one_any _).mono ?_); rintro e a4 ⟨vd, rfl, nd, bd⟩; have na := na.below bd; have hs := CVA.step (w := w) (by assumption) bd) | (go_at_call 58; (with_reducible refine (RR.out _ _ _ na nd).mono ?_); rintro e a5 ⟨rfl, be⟩; have hs := CVA.step (w := w) (by assumption) be))
      go_wp2_with fail
      go_ret2
      exact ⟨rfl, FB64.below (And.left hs)⟩
    · have er : narrow x = sgn32 (neg64 x) 2139095040 := by unfold narrow; rw [nx, ix]; simp only [Bool.false_eq_true, if_false, if_true]
      have VI := fun w => finfv32_any (neg64 x) w
      rw [er]
      rw [ix] at IX
      generalize sgn32 (neg64 x) 2139095040 = R at *
      generalize neg64 x = sx at *
      have NX := Lib.hid NX
      have IX := Lib.hid IX
      have SX := Lib.hid SX
      have VI := Lib.hid VI
      clear hx nx ix er MX
      go_enter Try.func49, Try.ntmps49
      go_wp2_with fail
      refine (NX.out _).mono ?_
      rintro e v1 ⟨rfl, hb⟩
      have hs := CVA.step HS0.out hb
      have HS1 := Lib.hid hs
      clear hb
      obtain ⟨⟨c0, c1, c2, c3, c4, c5, c6⟩, d⟩ := hs
      clear c5 c6 d
      go_wp2_with fail
      refine (IX.out _).mono ?_
      rintro e v2 ⟨rfl, hb⟩
      have HD := Lib.hid (CVA.drew (CVA.step HS1.out hb))
      clear hb c0 c1 c2 c3 c4
      go_wp2_with fail
      go_region_held3 (fun w' => CVA w w') (first | assumption | exact HD.out) (first | (go_at_call 18; (with_reducible refine (SX.out _).mono ?_); rintro e a0 ⟨rfl, b0⟩; have hs := CVA.step (w := w) (by assumption) b0) | (go_at_call 84; (with_reducible refine (VI.out _).mono ?_); rintro e a1 ⟨rfl, ba⟩; have hs := CVA.step (w := w) (by assumption) ba))
      go_wp2_with fail
      go_ret2
      exact ⟨rfl, FB64.below (And.left hs)⟩
  · simp only [if_true, Bool.not_true]
    rw [nx] at NX
    have NX := Lib.hid NX
    clear hx nx IX SX MX
    go_enter Try.func49, Try.ntmps49
    go_wp2_with fail
    refine (NX.out _).mono ?_
    rintro e v1 ⟨rfl, hb⟩
    have hs := CVA.step HS0.out hb
    have HS1 := Lib.hid hs
    clear hb hs
    go_wp2_with fail
    go_ret2
    exact ⟨rfl, FB64.below HS1.out.1⟩

abbrev CVB (w w' : World) : Prop := FB32 w w' ∧ w'.cell? ⟨w.heap.size + 1, 0, none⟩ = some (.int .i64 53) ∧ w'.cell? ⟨w.heap.size + 1, 1, none⟩ = some (.int .i64 52) ∧ w'.cell? ⟨w.heap.size + 1, 2, none⟩ = some (.int .i64 (-1074)) ∧ w'.cell? ⟨w.heap.size + 1, 3, none⟩ = some (.int .u64 2047) ∧ w'.cell? ⟨w.heap.size + 1, 4, none⟩ = some (.int .u64 9223372036854775808) ∧ w.heap.size + 1 < w'.heap.size
theorem CVB.start0 (w : World) : CVB w ((w.alloc (.cells #[.int .i64 24, .int .i64 23, .int .i64 (-149), .int .u64 255, .int .u64 2147483648] 24)).alloc (.cells #[.int .i64 53, .int .i64 52, .int .i64 (-1074), .int .u64 2047, .int .u64 9223372036854775808] 24)) := by
  have hz : (w.alloc (.cells #[.int .i64 24, .int .i64 23, .int .i64 (-149), .int .u64 255, .int .u64 2147483648] 24)).heap.size = w.heap.size + 1 := by simp
  have h := FB64.start0 (w.alloc (.cells #[.int .i64 24, .int .i64 23, .int .i64 (-149), .int .u64 255, .int .u64 2147483648] 24))
  obtain ⟨a, b, c, d, e, f, g⟩ := h
  rw [hz] at a b c d e f
  exact ⟨FB32.step (FB32.start0 w) ((Below.refl _ _).alloc (Nat.le_refl _) _), a, b, c, d, e, f⟩
theorem CVB.step {w W w1 : World} (h : CVB w W) (hb : Below W.heap.size W w1) : CVB w w1 := by
  obtain ⟨h0, a, b, c, d, e, f⟩ := h
  have hc := bcell hb
  exact ⟨FB32.step h0 hb, (hc _ _ f).trans a, (hc _ _ f).trans b, (hc _ _ f).trans c, (hc _ _ f).trans d, (hc _ _ f).trans e, Nat.lt_of_lt_of_le f hb.size⟩
theorem CVB.drew {w W : World} (h : CVB w W) : CVB w W.drew := ⟨FB32.drew h.1, h.2⟩
theorem conv_roundB (x : Nat) (w : World) (va vb : Value) (ha : NatAt w va (sm32 x)) (hb : NatAt w vb 1) : Calls Try.prog 58 #[.agg #[.int .i64 53, .int .i64 52, .int .i64 (-1074), .int .u64 2047, .int .u64 9223372036854775808], .bool (neg32 x), va, vb, .int .i64 (-149 + (se32 x : Int))] w (RetB (.int .u64 ((rd64 (neg32 x) (val32 x * 2 ^ 925) 1 : Nat) : Int)) w) := by
  have a := sm_lt32 x
  have c := se_lt32 x
  refine roundR64 w _ va vb _ 1 4 _ _ _ _ (by omega) rfl (by omega) (by omega) ha hb (pow_lt_K (n := sm32 x) (k := 64) (K := 4) (by omega) (by omega)) (one_lt_K (K := 4) (by omega)) (by omega) (by omega) ?_
  rw [val_sm32]
  exact conv_num2 (m := sm32 x) (s := se32 x) (L := 925) (by omega)
set_option maxRecDepth 100000 in
set_option maxHeartbeats 4000000 in
theorem fconvB_any (x : Nat) (w : World) (hx : x < 4294967296) : Calls Try.prog 49 #[.agg #[.int .i64 24, .int .i64 23, .int .i64 (-149), .int .u64 255, .int .u64 2147483648], .int .u64 (x : Int), .agg #[.int .i64 53, .int .i64 52, .int .i64 (-1074), .int .u64 2047, .int .u64 9223372036854775808]] w (RetB (.tuple #[.int .u64 (((if isNaN32 x then 0 else widen x) : Nat) : Int), .bool (!isNaN32 x)]) w) := by
  have NX := fun w => fnan32_any x w hx
  have IX := fun w => finf32_any x w hx
  have SX := fun w => fneg32_any x w hx
  have MX := fun w => fsize32_any x w hx
  have HS0 := Lib.hid (CVB.start0 w)
  cases nx : isNaN32 x
  · simp only [Bool.false_eq_true, if_false, Bool.not_false]
    rw [nx] at NX
    cases ix : isInf32 x
    · have er : widen x = rd64 (neg32 x) (val32 x * 2 ^ 925) 1 := by unfold widen; rw [nx, ix]; simp only [Bool.false_eq_true, if_false]
      have RR := conv_roundB x
      have lx : sm32 x < 18446744073709551616 := by have := sm_lt32 x; omega
      rw [er]
      rw [ix] at IX
      generalize rd64 (neg32 x) (val32 x * 2 ^ 925) 1 = R at *
      generalize sm32 x = mx at *
      generalize se32 x = dx at *
      generalize neg32 x = sx at *
      have NX := Lib.hid NX
      have IX := Lib.hid IX
      have SX := Lib.hid SX
      have MX := Lib.hid MX
      have RR := Lib.hid RR
      have LX := Lib.hid lx
      clear hx nx ix er lx
      go_enter Try.func49, Try.ntmps49
      go_wp2_with fail
      refine (NX.out _).mono ?_
      rintro e v1 ⟨rfl, hb⟩
      have hs := CVB.step HS0.out hb
      have HS1 := Lib.hid hs
      clear hb
      obtain ⟨⟨c0, c1, c2, c3, c4, c5, c6⟩, d⟩ := hs
      clear c5 c6 d
      go_wp2_with fail
      refine (IX.out _).mono ?_
      rintro e v2 ⟨rfl, hb⟩
      have hs := CVB.step HS1.out hb
      have HS2 := Lib.hid hs
      clear hb c0 c1 c2 c3 c4
      obtain ⟨⟨c0, c1, c2, c3, c4, c5, c6⟩, d⟩ := hs
      clear c5 c6 d
      go_wp2_with fail
      refine (MX.out _).mono ?_
      rintro e v3 ⟨rfl, hb⟩
      have HD := Lib.hid (CVB.drew (CVB.step HS2.out hb))
      clear hb c0 c1 c2 c3 c4
      go_wp2_with fail
      go_region_held3 (fun w' => CVB w w') (first | assumption | exact HD.out) (first | (go_at_call 18; (with_reducible refine (SX.out _).mono ?_); rintro e a0 ⟨rfl, b0⟩; have hs := CVB.step (w := w) (by assumption) b0) | (go_at_call 52; (with_reducible refine (natOf_any _ mx LX.out).mono ?_); rintro e a1 ⟨va, rfl, na, ba⟩; have hs := CVB.step (w := w) (by assumption) ba) | (go_at_call 59; (with_reducible refine (one_any _).mono ?_); rintro e a4 ⟨vd, rfl, nd, bd⟩; have na := na.below bd; have hs := CVB.step (w := w) (by assumption) bd) | (go_at_call 58; (with_reducible refine (RR.out _ _ _ na nd).mono ?_); rintro e a5 ⟨rfl, be⟩; have hs := CVB.step (w := w) (by assumption) be))
      go_wp2_with fail
      go_ret2
      exact ⟨rfl, FB32.below (And.left hs)⟩
    · have er : widen x = sgn64 (neg32 x) 9218868437227405312 := by unfold widen; rw [nx, ix]; simp only [Bool.false_eq_true, if_false, if_true]
      have VI := fun w => finfv64_any (neg32 x) w
      rw [er]
      rw [ix] at IX
      generalize sgn64 (neg32 x) 9218868437227405312 = R at *
      generalize neg32 x = sx at *
      have NX := Lib.hid NX
      have IX := Lib.hid IX
      have SX := Lib.hid SX
      have VI := Lib.hid VI
      clear hx nx ix er MX
      go_enter Try.func49, Try.ntmps49
      go_wp2_with fail
      refine (NX.out _).mono ?_
      rintro e v1 ⟨rfl, hb⟩
      have hs := CVB.step HS0.out hb
      have HS1 := Lib.hid hs
      clear hb
      obtain ⟨⟨c0, c1, c2, c3, c4, c5, c6⟩, d⟩ := hs
      clear c5 c6 d
      go_wp2_with fail
      refine (IX.out _).mono ?_
      rintro e v2 ⟨rfl, hb⟩
      have HD := Lib.hid (CVB.drew (CVB.step HS1.out hb))
      clear hb c0 c1 c2 c3 c4
      go_wp2_with fail
      go_region_held3 (fun w' => CVB w w') (first | assumption | exact HD.out) (first | (go_at_call 18; (with_reducible refine (SX.out _).mono ?_); rintro e a0 ⟨rfl, b0⟩; have hs := CVB.step (w := w) (by assumption) b0) | (go_at_call 84; (with_reducible refine (VI.out _).mono ?_); rintro e a1 ⟨rfl, ba⟩; have hs := CVB.step (w := w) (by assumption) ba))
      go_wp2_with fail
      go_ret2
      exact ⟨rfl, FB32.below (And.left hs)⟩
  · simp only [if_true, Bool.not_true]
    rw [nx] at NX
    have NX := Lib.hid NX
    clear hx nx IX SX MX
    go_enter Try.func49, Try.ntmps49
    go_wp2_with fail
    refine (NX.out _).mono ?_
    rintro e v1 ⟨rfl, hb⟩
    have hs := CVB.step HS0.out hb
    have HS1 := Lib.hid hs
    clear hb hs
    go_wp2_with fail
    go_ret2
    exact ⟨rfl, FB32.below HS1.out.1⟩
end Go.Proofs.Yteajgejpjodfbaa.SF
