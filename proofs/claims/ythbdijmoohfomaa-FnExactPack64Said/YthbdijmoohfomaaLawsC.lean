/-
  The walks of the laws on packing.
-/
import Derived.Test.YthbdijmoohfomaaSpecA
import Derived.Test.YthbdijmoohfomaaPackWalk
import Derived.Test.YthbdijmoohfomaaFrame
namespace Go.Proofs.Ythbdijmoohfomaa.SF
open Go.ChangeShapes Go.WideShapes Go.ChangeAt Go.RowKit
set_option linter.unusedVariables false

theorem pnum_rep {mant : Nat} {tr : Nat} {t : Nat} (ht : 2 ≤ t) : Rep mant (2 ^ t * 1) (tr ≠ 0) (pnum mant (decide (tr ≠ 0)) * 2 ^ (t - 2)) := by
  have e : 2 ^ t = 4 * 2 ^ (t - 2) := by
    rw [show t = 2 + (t - 2) by omega, Nat.pow_add, show 2 + (t - 2) - 2 = t - 2 by omega]
  have hp := two_pow_pos (t - 2)
  have e2 : mant * (2 ^ t * 1) = mant * 2 ^ 2 * 2 ^ (t - 2) := by rw [Nat.mul_one, e, ← Nat.mul_assoc]
  refine ⟨fun h => ?_, fun h => ?_⟩
  · have : tr = 0 := by omega
    rw [e2]; simp [pnum, this]
  · rw [e2]
    simp only [pnum, decide_eq_true h, if_true, Nat.add_mul, Nat.one_mul, Nat.mul_one, e]
    omega

theorem pack_same {F K num t b1 b2 : Nat} {E : Int} (ht : ((t - 2 : Nat) : Int) = E + K) (h1 : IsRnd F (num * 2 ^ (t - 2)) (1 * 2 ^ K) b1) (h2 : IsRnd F (numA num E) (numB 1 E) b2) : b1 = b2 := by
  refine h1.unique h2 (by rw [Nat.one_mul]; exact two_pow_pos K) (by unfold numB; rw [Nat.one_mul]; exact two_pow_pos _) ?_
  unfold numA numB
  rw [Nat.one_mul, Nat.one_mul, Nat.mul_assoc, Nat.mul_assoc, ← Nat.pow_add, ← Nat.pow_add]
  congr 2
  omega

set_option maxRecDepth 100000 in
theorem implPack64_any (sg m tr : Nat) (ex : Int) (A B K t : Nat) (w : World) (hsg : Sg64 sg) (hm0 : 0 < m)
    (he : -200000 ≤ ex) (he' : ex ≤ 200000) (ht64 : 64 ≤ t) (hB : 0 < B) (hst : PSt64 4503599627370496 K A B m tr t ex) :
    Calls Try.prog 37 #[.int .u64 (sg : Int), .int .u64 (m : Int), .int .i64 ex, .int .u64 (tr : Int)] w (PackPost64 sg 52 2047 A (B * 2 ^ K) w) := by
  have H := Lib.hid (fpack64_any sg m tr ex A B K t w (Lib.hid hsg) hm0 he he' ht64 hB hst)
  clear hsg hm0 he he' ht64 hB hst
  go_enter Try.func37, Try.ntmps37
  go_wp2_with (first | (go_at_call 71; refine (H.out).mono ?_; rintro e w' ⟨b, hb, rfl, rfl⟩) | go_in)
  go_ret
  exact ⟨_, by assumption, rfl, rfl⟩
set_option maxRecDepth 100000 in
set_option maxHeartbeats 1000000 in
theorem fnExactPack64 (sign : Bool) (m : Nat) (ex : Int) (tr : Nat) (w : World) (hm : m < 18446744073709551616) (hex : -9223372036854775808 ≤ ex ∧ ex ≤ 9223372036854775807) (htr : tr < 18446744073709551616) :
    Calls Try.prog 13 #[.bool sign, .int .u64 (m : Int), .int .i64 ex, .int .u64 (tr : Int)] w (LawPost w) := by
  clear hex
  by_cases h0 : m = 0
  · have e0 : ((m : Int) == 0) = true := by simp [h0]
    clear hm htr h0
    go_enter Try.func13, Try.ntmps13
    go_wp2_with fail
    go_ret
    exact ⟨rfl, Below.refl _ _⟩
  have e0 : ((m : Int) == 0) = false := beq_eq_false_iff_ne.mpr (by omega)
  by_cases h1 : ex < -100000
  · clear hm htr h0
    go_enter Try.func13, Try.ntmps13
    go_wp2_with fail
    go_ret
    exact ⟨rfl, Below.refl _ _⟩
  by_cases h2 : 100000 < ex
  · clear hm htr h0
    go_enter Try.func13, Try.ntmps13
    go_wp2_with fail
    go_ret
    exact ⟨rfl, Below.refl _ _⟩
  by_cases h3 : tr ≠ 0 ∧ m / 9007199254740992 = 0
  · have e1 : ((tr : Int) != 0) = true := by simp [h3.1]
    have e2 : ((m : Int) / 9007199254740992 == 0) = true := by
      rw [beq_iff_eq]; have := h3.2; omega
    clear hm htr h0 h3
    go_enter Try.func13, Try.ntmps13
    go_wp2_with fail
    go_ret
    exact ⟨rfl, Below.refl _ _⟩
  have hmark : tr ≠ 0 → 2 * 4503599627370496 ≤ m := by intro h; have : ¬ m / 9007199254740992 = 0 := fun h' => h3 ⟨h, h'⟩; omega
  obtain ⟨t, ht⟩ : ∃ t : Nat, (t : Int) = ex + 1022 + 300000 := ⟨(ex + 1022 + 300000).toNat, by omega⟩
  have hst : PSt64 4503599627370496 300000 (pnum m (decide (tr ≠ 0)) * 2 ^ (t - 2)) 1 m tr t ex := ⟨pnum_rep (by omega), by omega, hmark, hm, htr⟩
  have HPf := Lib.hid fun (w : World) => implPack64_any 0 m tr ex (pnum m (decide (tr ≠ 0)) * 2 ^ (t - 2)) 1 300000 t w (.inl rfl) (by omega) (by omega) (by omega) (by omega) (by omega) hst
  have HPt := Lib.hid fun (w : World) => implPack64_any 9223372036854775808 m tr ex (pnum m (decide (tr ≠ 0)) * 2 ^ (t - 2)) 1 300000 t w (.inr rfl) (by omega) (by omega) (by omega) (by omega) (by omega) hst
  have HS := Lib.hid fun (neg : Bool) (w : World) => fpackS64_any w neg m ex (decide (tr ≠ 0)) (by omega) (by omega) (by omega)
  have HSAME := Lib.hid fun (b1 b2 : Nat) (g1 : IsRnd 52 (pnum m (decide (tr ≠ 0)) * 2 ^ (t - 2)) (1 * 2 ^ 300000) b1) (g2 : IsRnd 52 (numA (pnum m (decide (tr ≠ 0))) (ex - 52 - 2 + 1074)) (numB 1 (ex - 52 - 2 + 1074)) b2) => pack_same (E := ex - 52 - 2 + 1074) (by omega) g1 g2
  have cm : IntKind.u64.wrap (m : Int) = (m : Int) := wrap_u64_nat (by omega)
  clear hmark hst ht
  by_cases ht0 : tr = 0
  · have e1 : ((tr : Int) != 0) = false := by simp [ht0]
    have d : decide (tr ≠ 0) = false := by simp [ht0]
    rw [d] at HPf HPt HS HSAME
    clear d hm htr h0 h3 ht0
    cases sign
    · go_enter Try.func13, Try.ntmps13
      go_wp2_with fail
      refine (HPf.out _).mono ?_
      rintro e w1 ⟨b1, g1, rfl, rfl⟩
      generalize hr1 : 0 + min b1 (2047 * 2 ^ 52) = r1
      have R1 := Lib.hid hr1
      have G1 := Lib.hid g1
      have cr : IntKind.u64.wrap (r1 : Int) = (r1 : Int) := wrap_u64_nat (by have : min b1 (2047 * 2 ^ 52) ≤ 9218868437227405312 := Nat.min_le_right _ _; omega)
      clear g1 hr1
      go_wp2_with fail
      refine (fmt64_any _).mono ?_
      rintro e w2 ⟨rfl, hb2⟩
      have B2 := Lib.hid hb2
      clear hb2
      go_wp2_with fail
      refine (HS.out false _).mono ?_
      rintro e w3 ⟨b2, g2, rfl, hb3⟩
      obtain rfl := HSAME.out b1 b2 G1.out g2
      have B3 := Lib.hid (below_trans' B2.out hb3)
      have eS : sgn64 false (min b1 9218868437227405312) = r1 := R1.out
      rw [eS]
      clear g2 hb3 eS G1
      go_wp2_with fail
      go_ret
      exact ⟨rfl, B3.out⟩
    · go_enter Try.func13, Try.ntmps13
      go_wp2_with fail
      refine (HPt.out _).mono ?_
      rintro e w1 ⟨b1, g1, rfl, rfl⟩
      generalize hr1 : 9223372036854775808 + min b1 (2047 * 2 ^ 52) = r1
      have R1 := Lib.hid hr1
      have G1 := Lib.hid g1
      have cr : IntKind.u64.wrap (r1 : Int) = (r1 : Int) := wrap_u64_nat (by have : min b1 (2047 * 2 ^ 52) ≤ 9218868437227405312 := Nat.min_le_right _ _; omega)
      clear g1 hr1
      go_wp2_with fail
      refine (fmt64_any _).mono ?_
      rintro e w2 ⟨rfl, hb2⟩
      have B2 := Lib.hid hb2
      clear hb2
      go_wp2_with fail
      refine (HS.out true _).mono ?_
      rintro e w3 ⟨b2, g2, rfl, hb3⟩
      obtain rfl := HSAME.out b1 b2 G1.out g2
      have B3 := Lib.hid (below_trans' B2.out hb3)
      have eS : sgn64 true (min b1 9218868437227405312) = r1 := R1.out
      rw [eS]
      clear g2 hb3 eS G1
      go_wp2_with fail
      go_ret
      exact ⟨rfl, B3.out⟩
  · have e1 : ((tr : Int) != 0) = true := by simp [ht0]
    have e2 : ((m : Int) / 9007199254740992 == 0) = false := beq_eq_false_iff_ne.mpr (by have : ¬ m / 9007199254740992 = 0 := fun h' => h3 ⟨ht0, h'⟩; omega)
    have d : decide (tr ≠ 0) = true := by simp [ht0]
    rw [d] at HPf HPt HS HSAME
    clear d hm htr h0 h3 ht0
    cases sign
    · go_enter Try.func13, Try.ntmps13
      go_wp2_with fail
      refine (HPf.out _).mono ?_
      rintro e w1 ⟨b1, g1, rfl, rfl⟩
      generalize hr1 : 0 + min b1 (2047 * 2 ^ 52) = r1
      have R1 := Lib.hid hr1
      have G1 := Lib.hid g1
      have cr : IntKind.u64.wrap (r1 : Int) = (r1 : Int) := wrap_u64_nat (by have : min b1 (2047 * 2 ^ 52) ≤ 9218868437227405312 := Nat.min_le_right _ _; omega)
      clear g1 hr1
      go_wp2_with fail
      refine (fmt64_any _).mono ?_
      rintro e w2 ⟨rfl, hb2⟩
      have B2 := Lib.hid hb2
      clear hb2
      go_wp2_with fail
      refine (HS.out false _).mono ?_
      rintro e w3 ⟨b2, g2, rfl, hb3⟩
      obtain rfl := HSAME.out b1 b2 G1.out g2
      have B3 := Lib.hid (below_trans' B2.out hb3)
      have eS : sgn64 false (min b1 9218868437227405312) = r1 := R1.out
      rw [eS]
      clear g2 hb3 eS G1
      go_wp2_with fail
      go_ret
      exact ⟨rfl, B3.out⟩
    · go_enter Try.func13, Try.ntmps13
      go_wp2_with fail
      refine (HPt.out _).mono ?_
      rintro e w1 ⟨b1, g1, rfl, rfl⟩
      generalize hr1 : 9223372036854775808 + min b1 (2047 * 2 ^ 52) = r1
      have R1 := Lib.hid hr1
      have G1 := Lib.hid g1
      have cr : IntKind.u64.wrap (r1 : Int) = (r1 : Int) := wrap_u64_nat (by have : min b1 (2047 * 2 ^ 52) ≤ 9218868437227405312 := Nat.min_le_right _ _; omega)
      clear g1 hr1
      go_wp2_with fail
      refine (fmt64_any _).mono ?_
      rintro e w2 ⟨rfl, hb2⟩
      have B2 := Lib.hid hb2
      clear hb2
      go_wp2_with fail
      refine (HS.out true _).mono ?_
      rintro e w3 ⟨b2, g2, rfl, hb3⟩
      obtain rfl := HSAME.out b1 b2 G1.out g2
      have B3 := Lib.hid (below_trans' B2.out hb3)
      have eS : sgn64 true (min b1 9218868437227405312) = r1 := R1.out
      rw [eS]
      clear g2 hb3 eS G1
      go_wp2_with fail
      go_ret
      exact ⟨rfl, B3.out⟩
set_option maxRecDepth 100000 in
theorem implPack32_any (sg m tr : Nat) (ex : Int) (A B K t : Nat) (w : World) (hsg : Sg32 sg) (hm0 : 0 < m)
    (he : -200000 ≤ ex) (he' : ex ≤ 200000) (ht64 : 64 ≤ t) (hB : 0 < B) (hst : PSt32 8388608 K A B m tr t ex) :
    Calls Try.prog 35 #[.int .u32 (sg : Int), .int .u32 (m : Int), .int .i64 ex, .int .u32 (tr : Int)] w (PackPost32 sg 23 255 A (B * 2 ^ K) w) := by
  have H := Lib.hid (fpack32_any sg m tr ex A B K t w (Lib.hid hsg) hm0 he he' ht64 hB hst)
  clear hsg hm0 he he' ht64 hB hst
  go_enter Try.func35, Try.ntmps35
  go_wp2_with (first | (go_at_call 66; refine (H.out).mono ?_; rintro e w' ⟨b, hb, rfl, rfl⟩) | go_in)
  go_ret
  exact ⟨_, by assumption, rfl, rfl⟩
set_option maxRecDepth 100000 in
set_option maxHeartbeats 1000000 in
theorem fnExactPack32 (sign : Bool) (m : Nat) (ex : Int) (tr : Nat) (w : World) (hm : m < 4294967296) (hex : -9223372036854775808 ≤ ex ∧ ex ≤ 9223372036854775807) (htr : tr < 4294967296) :
    Calls Try.prog 12 #[.bool sign, .int .u32 (m : Int), .int .i64 ex, .int .u32 (tr : Int)] w (LawPost w) := by
  clear hex
  by_cases h0 : m = 0
  · have e0 : ((m : Int) == 0) = true := by simp [h0]
    clear hm htr h0
    go_enter Try.func12, Try.ntmps12
    go_wp2_with fail
    go_ret
    exact ⟨rfl, Below.refl _ _⟩
  have e0 : ((m : Int) == 0) = false := beq_eq_false_iff_ne.mpr (by omega)
  by_cases h1 : ex < -100000
  · clear hm htr h0
    go_enter Try.func12, Try.ntmps12
    go_wp2_with fail
    go_ret
    exact ⟨rfl, Below.refl _ _⟩
  by_cases h2 : 100000 < ex
  · clear hm htr h0
    go_enter Try.func12, Try.ntmps12
    go_wp2_with fail
    go_ret
    exact ⟨rfl, Below.refl _ _⟩
  by_cases h3 : tr ≠ 0 ∧ m / 16777216 = 0
  · have e1 : ((tr : Int) != 0) = true := by simp [h3.1]
    have e2 : ((m : Int) / 16777216 == 0) = true := by
      rw [beq_iff_eq]; have := h3.2; omega
    clear hm htr h0 h3
    go_enter Try.func12, Try.ntmps12
    go_wp2_with fail
    go_ret
    exact ⟨rfl, Below.refl _ _⟩
  have hmark : tr ≠ 0 → 2 * 8388608 ≤ m := by intro h; have : ¬ m / 16777216 = 0 := fun h' => h3 ⟨h, h'⟩; omega
  obtain ⟨t, ht⟩ : ∃ t : Nat, (t : Int) = ex + 126 + 300000 := ⟨(ex + 126 + 300000).toNat, by omega⟩
  have hst : PSt32 8388608 300000 (pnum m (decide (tr ≠ 0)) * 2 ^ (t - 2)) 1 m tr t ex := ⟨pnum_rep (by omega), by omega, hmark, hm, htr⟩
  have HPf := Lib.hid fun (w : World) => implPack32_any 0 m tr ex (pnum m (decide (tr ≠ 0)) * 2 ^ (t - 2)) 1 300000 t w (.inl rfl) (by omega) (by omega) (by omega) (by omega) (by omega) hst
  have HPt := Lib.hid fun (w : World) => implPack32_any 2147483648 m tr ex (pnum m (decide (tr ≠ 0)) * 2 ^ (t - 2)) 1 300000 t w (.inr rfl) (by omega) (by omega) (by omega) (by omega) (by omega) hst
  have HS := Lib.hid fun (neg : Bool) (w : World) => fpackS32_any w neg m ex (decide (tr ≠ 0)) (by omega) (by omega) (by omega)
  have HSAME := Lib.hid fun (b1 b2 : Nat) (g1 : IsRnd 23 (pnum m (decide (tr ≠ 0)) * 2 ^ (t - 2)) (1 * 2 ^ 300000) b1) (g2 : IsRnd 23 (numA (pnum m (decide (tr ≠ 0))) (ex - 23 - 2 + 149)) (numB 1 (ex - 23 - 2 + 149)) b2) => pack_same (E := ex - 23 - 2 + 149) (by omega) g1 g2
  have cm : IntKind.u64.wrap (m : Int) = (m : Int) := wrap_u64_nat (by omega)
  clear hmark hst ht
  by_cases ht0 : tr = 0
  · have e1 : ((tr : Int) != 0) = false := by simp [ht0]
    have d : decide (tr ≠ 0) = false := by simp [ht0]
    rw [d] at HPf HPt HS HSAME
    clear d hm htr h0 h3 ht0
    cases sign
    · go_enter Try.func12, Try.ntmps12
      go_wp2_with fail
      refine (HPf.out _).mono ?_
      rintro e w1 ⟨b1, g1, rfl, rfl⟩
      generalize hr1 : 0 + min b1 (255 * 2 ^ 23) = r1
      have R1 := Lib.hid hr1
      have G1 := Lib.hid g1
      have cr : IntKind.u64.wrap (r1 : Int) = (r1 : Int) := wrap_u64_nat (by have : min b1 (255 * 2 ^ 23) ≤ 2139095040 := Nat.min_le_right _ _; omega)
      clear g1 hr1
      go_wp2_with fail
      refine (fmt32_any _).mono ?_
      rintro e w2 ⟨rfl, hb2⟩
      have B2 := Lib.hid hb2
      clear hb2
      go_wp2_with fail
      refine (HS.out false _).mono ?_
      rintro e w3 ⟨b2, g2, rfl, hb3⟩
      obtain rfl := HSAME.out b1 b2 G1.out g2
      have B3 := Lib.hid (below_trans' B2.out hb3)
      have eS : sgn32 false (min b1 2139095040) = r1 := R1.out
      rw [eS]
      clear g2 hb3 eS G1
      go_wp2_with fail
      go_ret
      exact ⟨rfl, B3.out⟩
    · go_enter Try.func12, Try.ntmps12
      go_wp2_with fail
      refine (HPt.out _).mono ?_
      rintro e w1 ⟨b1, g1, rfl, rfl⟩
      generalize hr1 : 2147483648 + min b1 (255 * 2 ^ 23) = r1
      have R1 := Lib.hid hr1
      have G1 := Lib.hid g1
      have cr : IntKind.u64.wrap (r1 : Int) = (r1 : Int) := wrap_u64_nat (by have : min b1 (255 * 2 ^ 23) ≤ 2139095040 := Nat.min_le_right _ _; omega)
      clear g1 hr1
      go_wp2_with fail
      refine (fmt32_any _).mono ?_
      rintro e w2 ⟨rfl, hb2⟩
      have B2 := Lib.hid hb2
      clear hb2
      go_wp2_with fail
      refine (HS.out true _).mono ?_
      rintro e w3 ⟨b2, g2, rfl, hb3⟩
      obtain rfl := HSAME.out b1 b2 G1.out g2
      have B3 := Lib.hid (below_trans' B2.out hb3)
      have eS : sgn32 true (min b1 2139095040) = r1 := R1.out
      rw [eS]
      clear g2 hb3 eS G1
      go_wp2_with fail
      go_ret
      exact ⟨rfl, B3.out⟩
  · have e1 : ((tr : Int) != 0) = true := by simp [ht0]
    have e2 : ((m : Int) / 16777216 == 0) = false := beq_eq_false_iff_ne.mpr (by have : ¬ m / 16777216 = 0 := fun h' => h3 ⟨ht0, h'⟩; omega)
    have d : decide (tr ≠ 0) = true := by simp [ht0]
    rw [d] at HPf HPt HS HSAME
    clear d hm htr h0 h3 ht0
    cases sign
    · go_enter Try.func12, Try.ntmps12
      go_wp2_with fail
      refine (HPf.out _).mono ?_
      rintro e w1 ⟨b1, g1, rfl, rfl⟩
      generalize hr1 : 0 + min b1 (255 * 2 ^ 23) = r1
      have R1 := Lib.hid hr1
      have G1 := Lib.hid g1
      have cr : IntKind.u64.wrap (r1 : Int) = (r1 : Int) := wrap_u64_nat (by have : min b1 (255 * 2 ^ 23) ≤ 2139095040 := Nat.min_le_right _ _; omega)
      clear g1 hr1
      go_wp2_with fail
      refine (fmt32_any _).mono ?_
      rintro e w2 ⟨rfl, hb2⟩
      have B2 := Lib.hid hb2
      clear hb2
      go_wp2_with fail
      refine (HS.out false _).mono ?_
      rintro e w3 ⟨b2, g2, rfl, hb3⟩
      obtain rfl := HSAME.out b1 b2 G1.out g2
      have B3 := Lib.hid (below_trans' B2.out hb3)
      have eS : sgn32 false (min b1 2139095040) = r1 := R1.out
      rw [eS]
      clear g2 hb3 eS G1
      go_wp2_with fail
      go_ret
      exact ⟨rfl, B3.out⟩
    · go_enter Try.func12, Try.ntmps12
      go_wp2_with fail
      refine (HPt.out _).mono ?_
      rintro e w1 ⟨b1, g1, rfl, rfl⟩
      generalize hr1 : 2147483648 + min b1 (255 * 2 ^ 23) = r1
      have R1 := Lib.hid hr1
      have G1 := Lib.hid g1
      have cr : IntKind.u64.wrap (r1 : Int) = (r1 : Int) := wrap_u64_nat (by have : min b1 (255 * 2 ^ 23) ≤ 2139095040 := Nat.min_le_right _ _; omega)
      clear g1 hr1
      go_wp2_with fail
      refine (fmt32_any _).mono ?_
      rintro e w2 ⟨rfl, hb2⟩
      have B2 := Lib.hid hb2
      clear hb2
      go_wp2_with fail
      refine (HS.out true _).mono ?_
      rintro e w3 ⟨b2, g2, rfl, hb3⟩
      obtain rfl := HSAME.out b1 b2 G1.out g2
      have B3 := Lib.hid (below_trans' B2.out hb3)
      have eS : sgn32 true (min b1 2139095040) = r1 := R1.out
      rw [eS]
      clear g2 hb3 eS G1
      go_wp2_with fail
      go_ret
      exact ⟨rfl, B3.out⟩
end Go.Proofs.Ythbdijmoohfomaa.SF
