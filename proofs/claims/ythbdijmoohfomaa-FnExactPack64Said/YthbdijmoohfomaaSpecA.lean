/-
  The walks through the reference: Pack; FromInt, FromUint, Convert.
-/
import Derived.Test.YthbdijmoohfomaaRoundX
namespace Go.Proofs.Ythbdijmoohfomaa.SF
open Go.ChangeShapes Go.WideShapes Go.ChangeAt Go.RowKit
set_option linter.unusedVariables false

theorem NatAt.drew {w : World} {v : Value} {n : Nat} (h : NatAt w v n) : NatAt w.drew v n := h.below (Below.refl _ _).drew
theorem pow_lt_K {n k K : Nat} (h : n < 2 ^ k) (hk : k ≤ 32 * K) : n < 2 ^ (32 * K) := Nat.lt_of_lt_of_le h (Nat.pow_le_pow_right (by omega) hk)

/-- mant, and a little more -/
def pnum (mant : Nat) (more : Bool) : Nat := mant * 2 ^ 2 + (if more then 1 else 0)

theorem held_nat64 {w W : World} {v : Value} {n : Nat} (h : FB64 w W ∧ NatAt W v n) : NatAt W v n := h.2
theorem held_step64 {w W w1 : World} {v : Value} {n : Nat} (h : FB64 w W ∧ NatAt W v n) (hb : Below W.heap.size W w1) : FB64 w w1 ∧ NatAt w1 v n := ⟨FB64.step h.1 hb, h.2.below hb⟩
set_option maxRecDepth 100000 in
set_option maxHeartbeats 1000000 in
theorem fpackS64_any (w : World) (neg : Bool) (mant : Nat) (exp : Int) (more : Bool) (hm : mant < 18446744073709551616) (he1 : -100000 ≤ exp) (he2 : exp ≤ 100000) :
    Calls Try.prog 36 #[.agg #[.int .i64 53, .int .i64 52, .int .i64 (-1074), .int .u64 2047, .int .u64 9223372036854775808], .bool neg, .int .u64 (mant : Int), .int .i64 exp, .bool more] w (RoundPost64 neg (pnum mant more) 1 (exp - 52 - 2 + 1074) w) := by
  have HF0 := Lib.hid (FB64.start0 w)
  have HM := Lib.hid hm
  have l4 : mant * 2 ^ 2 < 2 ^ (32 * 4) := by
    have : mant * 2 ^ 2 < 2 ^ 66 := mul_pow_lt (a := 64) hm
    exact Nat.lt_of_lt_of_le this (by decide)
  have l5 : pnum mant more < 2 ^ (32 * 4) := by
    have : mant * 2 ^ 2 < 2 ^ 66 := mul_pow_lt (a := 64) hm
    have h2 : (2 : Nat) ^ 66 < 2 ^ (32 * 4) := by decide
    unfold pnum
    split <;> omega
  have L4 := Lib.hid l4
  have L5 := Lib.hid l5
  have s1 : IntKind.i64.wrap (exp - 52) = exp - 52 := IntWalk.i64_in _ (by omega)
  have s2 : IntKind.i64.wrap (exp - 52 - 2) = exp - 52 - 2 := IntWalk.i64_in _ (by omega)
  clear hm l4 l5
  cases more
  · have ep : pnum mant false = mant * 2 ^ 2 := by simp [pnum]
    rw [ep] at L5 ⊢
    clear ep
    go_enter Try.func36, Try.ntmps36
    go_wp2_with fail
    refine (natOf_any _ mant HM.out).mono ?_
    rintro e w1 ⟨v1, rfl, n1, b1⟩
    have HF1 := Lib.hid (FB64.step HF0.out b1)
    have C2 := Lib.hid (natShl (s := 2) 4 (by omega) n1 (pow_lt_K (k := 64) HM.out (by omega)) (by omega))
    clear n1 b1
    go_wp2_with fail
    refine (C2.out).mono ?_
    rintro e w2 ⟨v2, rfl, n2, b2⟩
    have HS : Hid (FB64 w w2.drew ∧ NatAt w2.drew v2 (mant * 2 ^ 2)) := Lib.hid ⟨(FB64.step HF1.out b2).drew, n2.drew⟩
    clear n2 b2
    go_wp2_with fail
    go_region_held3 (fun w' => FB64 w w' ∧ NatAt w' v2 (mant * 2 ^ 2)) (first | assumption | exact HS.out) (first | (go_at_call 53; refine (one_any _).mono ?_; rintro e w3 ⟨v3, rfl, n3, b3⟩; have hs := held_step64 (w := w) (v := v2) (by assumption) b3; clear b3) | (go_at_call 54; refine (round64_any _ neg _ _ (mant * 2 ^ 2) 1 4 _ (exp - 52 - 2 + 1074) (by omega) (Lib.hid rfl) (by omega) (by omega) (held_nat64 (w := w) (by assumption)) (by assumption) L5.out (by decide) (by omega)).mono ?_; rintro e w4 ⟨b, hb, rfl, hbl⟩; have hs4 := held_step64 (w := w) (v := v2) (by assumption) hbl; clear hbl))
    go_wp2_with fail
    go_ret
    exact ⟨_, by assumption, rfl, FB64.below (And.left (by assumption))⟩
  · have ep : pnum mant true = mant * 2 ^ 2 + 1 := by simp [pnum]
    rw [ep] at L5 ⊢
    clear ep
    go_enter Try.func36, Try.ntmps36
    go_wp2_with fail
    refine (natOf_any _ mant HM.out).mono ?_
    rintro e w1 ⟨v1, rfl, n1, b1⟩
    have HF1 := Lib.hid (FB64.step HF0.out b1)
    have C2 := Lib.hid (natShl (s := 2) 4 (by omega) n1 (pow_lt_K (k := 64) HM.out (by omega)) (by omega))
    clear n1 b1
    go_wp2_with fail
    refine (C2.out).mono ?_
    rintro e w2 ⟨v2, rfl, n2, b2⟩
    have HF2 := Lib.hid (FB64.step HF1.out b2)
    have HN2 := Lib.hid n2
    clear n2 b2
    go_wp2_with fail
    refine (one_any _).mono ?_
    rintro e w3 ⟨v3, rfl, n3, b3⟩
    have HF3 := Lib.hid (FB64.step HF2.out b3)
    have C4 := Lib.hid (natAdd 4 (by omega) (HN2.out.below b3) n3 L4.out (by decide))
    clear n3 b3
    go_wp2_with fail
    refine (C4.out).mono ?_
    rintro e w4 ⟨v4, rfl, n4, b4⟩
    have HS : Hid (FB64 w w4.drew ∧ NatAt w4.drew v4 (mant * 2 ^ 2 + 1)) := Lib.hid ⟨(FB64.step HF3.out b4).drew, n4.drew⟩
    clear n4 b4
    go_wp2_with fail
    go_region_held3 (fun w' => FB64 w w' ∧ NatAt w' v4 (mant * 2 ^ 2 + 1)) (first | assumption | exact HS.out) (first | (go_at_call 53; refine (one_any _).mono ?_; rintro e w5 ⟨v5, rfl, n5, b5⟩; have hs := held_step64 (w := w) (v := v4) (by assumption) b5; clear b5) | (go_at_call 54; refine (round64_any _ neg _ _ (mant * 2 ^ 2 + 1) 1 4 _ (exp - 52 - 2 + 1074) (by omega) (Lib.hid rfl) (by omega) (by omega) (held_nat64 (w := w) (by assumption)) (by assumption) L5.out (by decide) (by omega)).mono ?_; rintro e w6 ⟨b, hb, rfl, hbl⟩; have hs6 := held_step64 (w := w) (v := v4) (by assumption) hbl; clear hbl))
    go_wp2_with fail
    go_ret
    exact ⟨_, by assumption, rfl, FB64.below (And.left (by assumption))⟩
theorem held_nat32 {w W : World} {v : Value} {n : Nat} (h : FB32 w W ∧ NatAt W v n) : NatAt W v n := h.2
theorem held_step32 {w W w1 : World} {v : Value} {n : Nat} (h : FB32 w W ∧ NatAt W v n) (hb : Below W.heap.size W w1) : FB32 w w1 ∧ NatAt w1 v n := ⟨FB32.step h.1 hb, h.2.below hb⟩
set_option maxRecDepth 100000 in
set_option maxHeartbeats 1000000 in
theorem fpackS32_any (w : World) (neg : Bool) (mant : Nat) (exp : Int) (more : Bool) (hm : mant < 18446744073709551616) (he1 : -100000 ≤ exp) (he2 : exp ≤ 100000) :
    Calls Try.prog 36 #[.agg #[.int .i64 24, .int .i64 23, .int .i64 (-149), .int .u64 255, .int .u64 2147483648], .bool neg, .int .u64 (mant : Int), .int .i64 exp, .bool more] w (RoundPost32 neg (pnum mant more) 1 (exp - 23 - 2 + 149) w) := by
  have HF0 := Lib.hid (FB32.start0 w)
  have HM := Lib.hid hm
  have l4 : mant * 2 ^ 2 < 2 ^ (32 * 4) := by
    have : mant * 2 ^ 2 < 2 ^ 66 := mul_pow_lt (a := 64) hm
    exact Nat.lt_of_lt_of_le this (by decide)
  have l5 : pnum mant more < 2 ^ (32 * 4) := by
    have : mant * 2 ^ 2 < 2 ^ 66 := mul_pow_lt (a := 64) hm
    have h2 : (2 : Nat) ^ 66 < 2 ^ (32 * 4) := by decide
    unfold pnum
    split <;> omega
  have L4 := Lib.hid l4
  have L5 := Lib.hid l5
  have s1 : IntKind.i64.wrap (exp - 23) = exp - 23 := IntWalk.i64_in _ (by omega)
  have s2 : IntKind.i64.wrap (exp - 23 - 2) = exp - 23 - 2 := IntWalk.i64_in _ (by omega)
  clear hm l4 l5
  cases more
  · have ep : pnum mant false = mant * 2 ^ 2 := by simp [pnum]
    rw [ep] at L5 ⊢
    clear ep
    go_enter Try.func36, Try.ntmps36
    go_wp2_with fail
    refine (natOf_any _ mant HM.out).mono ?_
    rintro e w1 ⟨v1, rfl, n1, b1⟩
    have HF1 := Lib.hid (FB32.step HF0.out b1)
    have C2 := Lib.hid (natShl (s := 2) 4 (by omega) n1 (pow_lt_K (k := 64) HM.out (by omega)) (by omega))
    clear n1 b1
    go_wp2_with fail
    refine (C2.out).mono ?_
    rintro e w2 ⟨v2, rfl, n2, b2⟩
    have HS : Hid (FB32 w w2.drew ∧ NatAt w2.drew v2 (mant * 2 ^ 2)) := Lib.hid ⟨(FB32.step HF1.out b2).drew, n2.drew⟩
    clear n2 b2
    go_wp2_with fail
    go_region_held3 (fun w' => FB32 w w' ∧ NatAt w' v2 (mant * 2 ^ 2)) (first | assumption | exact HS.out) (first | (go_at_call 53; refine (one_any _).mono ?_; rintro e w3 ⟨v3, rfl, n3, b3⟩; have hs := held_step32 (w := w) (v := v2) (by assumption) b3; clear b3) | (go_at_call 54; refine (round32_any _ neg _ _ (mant * 2 ^ 2) 1 4 _ (exp - 23 - 2 + 149) (by omega) (Lib.hid rfl) (by omega) (by omega) (held_nat32 (w := w) (by assumption)) (by assumption) L5.out (by decide) (by omega)).mono ?_; rintro e w4 ⟨b, hb, rfl, hbl⟩; have hs4 := held_step32 (w := w) (v := v2) (by assumption) hbl; clear hbl))
    go_wp2_with fail
    go_ret
    exact ⟨_, by assumption, rfl, FB32.below (And.left (by assumption))⟩
  · have ep : pnum mant true = mant * 2 ^ 2 + 1 := by simp [pnum]
    rw [ep] at L5 ⊢
    clear ep
    go_enter Try.func36, Try.ntmps36
    go_wp2_with fail
    refine (natOf_any _ mant HM.out).mono ?_
    rintro e w1 ⟨v1, rfl, n1, b1⟩
    have HF1 := Lib.hid (FB32.step HF0.out b1)
    have C2 := Lib.hid (natShl (s := 2) 4 (by omega) n1 (pow_lt_K (k := 64) HM.out (by omega)) (by omega))
    clear n1 b1
    go_wp2_with fail
    refine (C2.out).mono ?_
    rintro e w2 ⟨v2, rfl, n2, b2⟩
    have HF2 := Lib.hid (FB32.step HF1.out b2)
    have HN2 := Lib.hid n2
    clear n2 b2
    go_wp2_with fail
    refine (one_any _).mono ?_
    rintro e w3 ⟨v3, rfl, n3, b3⟩
    have HF3 := Lib.hid (FB32.step HF2.out b3)
    have C4 := Lib.hid (natAdd 4 (by omega) (HN2.out.below b3) n3 L4.out (by decide))
    clear n3 b3
    go_wp2_with fail
    refine (C4.out).mono ?_
    rintro e w4 ⟨v4, rfl, n4, b4⟩
    have HS : Hid (FB32 w w4.drew ∧ NatAt w4.drew v4 (mant * 2 ^ 2 + 1)) := Lib.hid ⟨(FB32.step HF3.out b4).drew, n4.drew⟩
    clear n4 b4
    go_wp2_with fail
    go_region_held3 (fun w' => FB32 w w' ∧ NatAt w' v4 (mant * 2 ^ 2 + 1)) (first | assumption | exact HS.out) (first | (go_at_call 53; refine (one_any _).mono ?_; rintro e w5 ⟨v5, rfl, n5, b5⟩; have hs := held_step32 (w := w) (v := v4) (by assumption) b5; clear b5) | (go_at_call 54; refine (round32_any _ neg _ _ (mant * 2 ^ 2 + 1) 1 4 _ (exp - 23 - 2 + 149) (by omega) (Lib.hid rfl) (by omega) (by omega) (held_nat32 (w := w) (by assumption)) (by assumption) L5.out (by decide) (by omega)).mono ?_; rintro e w6 ⟨b, hb, rfl, hbl⟩; have hs6 := held_step32 (w := w) (v := v4) (by assumption) hbl; clear hbl))
    go_wp2_with fail
    go_ret
    exact ⟨_, by assumption, rfl, FB32.below (And.left (by assumption))⟩
end Go.Proofs.Ythbdijmoohfomaa.SF
