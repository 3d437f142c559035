/-
  The walk through the reference's Whole.
-/
import Derived.Test.YtignbdajgnnlpaaSpecR
import Derived.Test.YtignbdajgnnlpaaIntP
namespace Go.Proofs.Ytignbdajgnnlpaa.SF
open Go.ChangeShapes Go.WideShapes Go.ChangeAt Go.RowKit
set_option linter.unusedVariables false

/-- a number's digits by blen -/
theorem wh_form {m s L : Nat} : m * 2 ^ s / 2 ^ L = if L ≤ s then m * 2 ^ (s - L) else m / 2 ^ (L - s) := by
  by_cases h : L ≤ s
  · rw [if_pos h]
    have e : m * 2 ^ s = m * 2 ^ (s - L) * 2 ^ L := by rw [Nat.mul_assoc, ← Nat.pow_add, show s - L + L = s by omega]
    rw [e]
    exact Nat.mul_div_cancel _ (two_pow_pos L)
  · rw [if_neg h]
    have e : 2 ^ L = 2 ^ (L - s) * 2 ^ s := by rw [← Nat.pow_add, show L - s + s = L by omega]
    rw [e]
    exact Nat.mul_div_mul_right _ _ (two_pow_pos s)
theorem shr_val {m d : Nat} (hm : m < 18446744073709551616) : (m : Int) / 2 ^ min d 64 = ((m / 2 ^ d : Nat) : Int) := by
  rcases Nat.le_total d 64 with h | h
  · rw [Nat.min_eq_left h, Int.natCast_ediv, Int.natCast_pow]; rfl
  · rw [Nat.min_eq_right h]
    have h1 : (2 : Nat) ^ 64 ≤ 2 ^ d := Nat.pow_le_pow_right (by omega) h
    have h2 : m / 2 ^ d = 0 := Nat.div_eq_of_lt (by omega)
    rw [h2]
    omega
theorem shl_val {m d : Nat} (h : m * 2 ^ d < 18446744073709551616) (hm : 0 < m) : IntKind.u64.wrap ((m : Int) * 2 ^ min d 64) = ((m * 2 ^ d : Nat) : Int) := by
  have hd : d ≤ 64 := by
    rcases Nat.le_total d 64 with g | g
    · exact g
    · have h1 : (2 : Nat) ^ 64 ≤ 2 ^ d := Nat.pow_le_pow_right (by omega) g
      have h2 : 1 * 2 ^ d ≤ m * 2 ^ d := Nat.mul_le_mul_right _ hm
      omega
  rw [Nat.min_eq_left hd]
  have e : (m : Int) * 2 ^ d = ((m * 2 ^ d : Nat) : Int) := by rw [Int.natCast_mul, Int.natCast_pow]; rfl
  rw [e]
  exact wrap_u64_nat h
theorem shl_val0 {m d : Nat} (h : m * 2 ^ d < 18446744073709551616) : IntKind.u64.wrap ((m : Int) * 2 ^ min d 64) = ((m * 2 ^ d : Nat) : Int) := by
  rcases Nat.eq_zero_or_pos m with g | g
  · subst g
    rw [Nat.zero_mul, show ((0 : Nat) : Int) = 0 from rfl, Int.zero_mul]; decide
  · exact shl_val h g
def whB64 (x : Nat) : Bool := fin64 x && decide (wh64 x < 18446744073709551616)
theorem wh_se64 (x : Nat) : wh64 x = if 1074 ≤ se64 x then sm64 x * 2 ^ (se64 x - 1074) else sm64 x / 2 ^ (1074 - se64 x) := by
  have h := wh_form (m := sm64 x) (s := se64 x) (L := 1074)
  unfold wh64
  rw [val_sm64]
  exact h
set_option maxRecDepth 100000 in
set_option maxHeartbeats 4000000 in
theorem fwhole64_any (x : Nat) (w : World) (hx : x < 18446744073709551616) : Calls Try.prog 16 #[.agg #[.int .i64 53, .int .i64 52, .int .i64 (-1074), .int .u64 2047, .int .u64 9223372036854775808], .int .u64 (x : Int)] w (RetB (.tuple #[.int .u64 (((if whB64 x then wh64 x else 0) : Nat) : Int), .bool (whB64 x)]) w) := by
  have FI := fun w => ffin64_any x w hx
  have MX := Lib.hid fun w => fsize64_any x w hx
  have HS0 := Lib.hid (FB64.start0 w)
  have hsm := sm_lt64 x
  have hse := se_lt64 x
  have hws := wh_se64 x
  have hpos : 1074 ≤ se64 x → 0 < sm64 x := by
    intro h
    have h3 := ff_lt64 x
    unfold se64 at h
    unfold sm64
    rw [if_neg (by omega)]; omega
  cases hf : fin64 x
  · have hb : whB64 x = false := by unfold whB64; rw [hf]; rfl
    rw [hf] at FI
    rw [hb]
    simp only [Bool.false_eq_true, if_false]
    have FI := Lib.hid FI
    clear hx hsm hse hws hpos hf hb MX
    go_enter Try.func16, Try.ntmps16
    go_wp2_with fail
    refine (FI.out _).mono ?_
    rintro e v1 ⟨rfl, hb⟩
    have HS1 := Lib.hid (FB64.step HS0.out hb)
    clear hb
    go_wp2_with fail
    go_ret2
    exact ⟨rfl, FB64.below HS1.out⟩
  · rw [hf] at FI
    have FI := Lib.hid FI
    have hbB : whB64 x = decide (wh64 x < 18446744073709551616) := by unfold whB64; rw [hf]; rfl
    generalize whB64 x = B at *
    generalize wh64 x = W at *
    have lm : sm64 x < 18446744073709551616 := by omega
    have LM := Lib.hid lm
    generalize sm64 x = m at *
    generalize se64 x = s at *
    by_cases hA : s + 64 ≤ 1074
    · have hW : W = 0 := by
        rw [hws, if_neg (by omega)]
        refine Nat.div_eq_of_lt ?_
        have h1 : (2 : Nat) ^ 64 ≤ 2 ^ (1074 - s) := Nat.pow_le_pow_right (by omega) (by omega)
        omega
      have t1 : decide (-1074 + (s : Int) ≤ -64) = true := decide_eq_true (by omega)
      subst hW
      have hB : B = true := by rw [hbB]; exact decide_eq_true (by omega)
      subst hB
      simp only [if_true]
      clear hx hsm hse hws hpos hf hbB lm hA
      go_enter Try.func16, Try.ntmps16
      go_wp2_with fail
      refine (FI.out _).mono ?_
      rintro e v1 ⟨rfl, hb⟩
      have hs := FB64.step HS0.out hb
      have HS1 := Lib.hid hs
      clear hb
      obtain ⟨c0, c1, c2, c3, c4, c5, c6⟩ := hs
      clear c5 c6
      go_wp2_with fail
      refine (MX.out _).mono ?_
      rintro e v2 ⟨rfl, hb⟩
      have HS2 := Lib.hid (FB64.step HS1.out hb)
      clear hb c0 c1 c2 c3 c4
      go_wp2_with fail
      go_ret2
      exact ⟨rfl, FB64.below HS2.out⟩
    · have t1 : decide (-1074 + (s : Int) ≤ -64) = false := decide_eq_false (by omega)
      by_cases hB0 : s < 1074
      · rw [if_neg (by omega)] at hws
        have t2 : decide (-1074 + (s : Int) < 0) = true := decide_eq_true (by omega)
        have s1 : IntKind.i64.wrap (-(-1074 + (s : Int))) = ((1074 - s : Nat) : Int) := by rw [IntWalk.i64_in _ (by omega)]; omega
        have hWlt : W < 18446744073709551616 := by
          rw [hws]; exact Nat.lt_of_le_of_lt (Nat.div_le_self _ _) lm
        have hB : B = true := by rw [hbB]; exact decide_eq_true hWlt
        have f1 := shr_val (d := 1074 - s) lm
        have hd : 1074 - s < 64 := by omega
        rw [← hws, Nat.min_eq_left (Nat.le_of_lt hd)] at f1
        subst hB
        simp only [if_true]
        generalize 1074 - s = d at *
        clear hx hsm hse hws hpos hf hbB lm hA hB0
        go_enter Try.func16, Try.ntmps16
        go_wp2_with fail
        refine (FI.out _).mono ?_
        rintro e v1 ⟨rfl, hb⟩
        have hs := FB64.step HS0.out hb
        have HS1 := Lib.hid hs
        clear hb
        obtain ⟨c0, c1, c2, c3, c4, c5, c6⟩ := hs
        clear c5 c6
        go_wp2_with fail
        refine (MX.out _).mono ?_
        rintro e v2 ⟨rfl, hb⟩
        have HS2 := Lib.hid (FB64.step HS1.out hb)
        clear hb c0 c1 c2 c3 c4
        go_wp2_with fail
        go_ret2
        exact ⟨rfl, FB64.below HS2.out⟩
      · rw [if_pos (by omega)] at hws
        have hm0 := hpos (by omega)
        have t2 : decide (-1074 + (s : Int) < 0) = false := decide_eq_false (by omega)
        have s1 : -1074 + (s : Int) = ((s - 1074 : Nat) : Int) := by omega
        have hds : s - 1074 < 2047 := by omega
        have hbl := blen_le (a := m) (K := 2) (by exact Nat.lt_of_lt_of_le lm (by decide))
        obtain ⟨b1, b2, b3⟩ := blen_pos hm0
        generalize s - 1074 = d at *
        have LN := fun (w : World) (va : Value) (h1 : NatAt w va m) => natLen 4 (by omega) h1 (pow_lt_K (k := 64) (K := 4) LM.out (by omega))
        rw [s1] at t1 t2 MX
        have s2 : IntKind.i64.wrap ((blen m : Int) + (d : Int)) = (blen m : Int) + (d : Int) := IntWalk.i64_in _ (by omega)
        by_cases hC : 64 < blen m + d
        · have t3 : decide (64 < (blen m : Int) + (d : Int)) = true := decide_eq_true (by omega)
          have hWge : 18446744073709551616 ≤ W := by
            rw [hws]
            have h1 : 2 ^ (blen m - 1) * 2 ^ d ≤ m * 2 ^ d := Nat.mul_le_mul_right _ b2
            rw [← Nat.pow_add] at h1
            have h2 : (2 : Nat) ^ 64 ≤ 2 ^ (blen m - 1 + d) := Nat.pow_le_pow_right (by omega) (by omega)
            exact Nat.le_trans h2 h1
          have hB : B = false := by rw [hbB]; exact decide_eq_false (by omega)
          have t4 : ((m : Int) == 0) = false := beq_eq_false_iff_ne.mpr (by omega)
          subst hB
          simp only [Bool.false_eq_true, if_false]
          generalize blen m = bl at *
          have LN := Lib.hid LN
          clear hx hsm hse hws hpos hf hbB lm hA hB0 hWge b1 b2 b3 hm0 hC s1
          go_enter Try.func16, Try.ntmps16
          go_wp2_with fail
          refine (FI.out _).mono ?_
          rintro e v1 ⟨rfl, hb⟩
          have hs := FB64.step HS0.out hb
          have HS1 := Lib.hid hs
          clear hb
          obtain ⟨c0, c1, c2, c3, c4, c5, c6⟩ := hs
          clear c5 c6
          go_wp2_with fail
          refine (MX.out _).mono ?_
          rintro e v2 ⟨rfl, hb⟩
          have HS2 := Lib.hid (FB64.step HS1.out hb)
          clear hb c0 c1 c2 c3 c4
          go_wp2_with fail
          refine (natOf_any _ m LM.out).mono ?_
          rintro e v3 ⟨va, rfl, na, ba⟩
          have HS3 := Lib.hid (FB64.step HS2.out ba)
          have C3 := Lib.hid (LN.out _ _ na)
          clear ba na
          go_wp2_with fail
          refine (C3.out).mono ?_
          rintro e v4 ⟨rfl, rfl⟩
          go_wp2_with fail
          go_ret2
          exact ⟨rfl, FB64.below HS3.out⟩
        · have t3 : decide (64 < (blen m : Int) + (d : Int)) = false := decide_eq_false (by omega)
          have hWlt : W < 18446744073709551616 := by
            rw [hws]
            have h1 : m * 2 ^ d < 2 ^ blen m * 2 ^ d := Nat.mul_lt_mul_of_pos_right b3 (two_pow_pos d)
            rw [← Nat.pow_add] at h1
            have h2 : (2 : Nat) ^ (blen m + d) ≤ 2 ^ 64 := Nat.pow_le_pow_right (by omega) (by omega)
            exact Nat.lt_of_lt_of_le h1 h2
          have hB : B = true := by rw [hbB]; exact decide_eq_true hWlt
          have f1 := shl_val (m := m) (d := d) (by rw [← hws]; exact hWlt) hm0
          have hd : d ≤ 64 := by omega
          rw [← hws, Nat.min_eq_left hd] at f1
          subst hB
          simp only [if_true]
          generalize blen m = bl at *
          have LN := Lib.hid LN
          clear hx hsm hse hws hpos hf hbB lm hA hB0 hWlt b1 b2 b3 hm0 hC s1
          go_enter Try.func16, Try.ntmps16
          go_wp2_with fail
          refine (FI.out _).mono ?_
          rintro e v1 ⟨rfl, hb⟩
          have hs := FB64.step HS0.out hb
          have HS1 := Lib.hid hs
          clear hb
          obtain ⟨c0, c1, c2, c3, c4, c5, c6⟩ := hs
          clear c5 c6
          go_wp2_with fail
          refine (MX.out _).mono ?_
          rintro e v2 ⟨rfl, hb⟩
          have HS2 := Lib.hid (FB64.step HS1.out hb)
          clear hb c0 c1 c2 c3 c4
          go_wp2_with fail
          refine (natOf_any _ m LM.out).mono ?_
          rintro e v3 ⟨va, rfl, na, ba⟩
          have HS3 := Lib.hid (FB64.step HS2.out ba)
          have C3 := Lib.hid (LN.out _ _ na)
          clear ba na
          go_wp2_with fail
          refine (C3.out).mono ?_
          rintro e v4 ⟨rfl, rfl⟩
          go_wp2_with fail
          go_ret2
          exact ⟨rfl, FB64.below HS3.out⟩
def whB32 (x : Nat) : Bool := fin32 x && decide (wh32 x < 18446744073709551616)
theorem wh_se32 (x : Nat) : wh32 x = if 149 ≤ se32 x then sm32 x * 2 ^ (se32 x - 149) else sm32 x / 2 ^ (149 - se32 x) := by
  have h := wh_form (m := sm32 x) (s := se32 x) (L := 149)
  unfold wh32
  rw [val_sm32]
  exact h
set_option maxRecDepth 100000 in
set_option maxHeartbeats 4000000 in
theorem fwhole32_any (x : Nat) (w : World) (hx : x < 4294967296) : Calls Try.prog 16 #[.agg #[.int .i64 24, .int .i64 23, .int .i64 (-149), .int .u64 255, .int .u64 2147483648], .int .u64 (x : Int)] w (RetB (.tuple #[.int .u64 (((if whB32 x then wh32 x else 0) : Nat) : Int), .bool (whB32 x)]) w) := by
  have FI := fun w => ffin32_any x w hx
  have MX := Lib.hid fun w => fsize32_any x w hx
  have HS0 := Lib.hid (FB32.start0 w)
  have hsm := sm_lt32 x
  have hse := se_lt32 x
  have hws := wh_se32 x
  have hpos : 149 ≤ se32 x → 0 < sm32 x := by
    intro h
    have h3 := ff_lt32 x
    unfold se32 at h
    unfold sm32
    rw [if_neg (by omega)]; omega
  cases hf : fin32 x
  · have hb : whB32 x = false := by unfold whB32; rw [hf]; rfl
    rw [hf] at FI
    rw [hb]
    simp only [Bool.false_eq_true, if_false]
    have FI := Lib.hid FI
    clear hx hsm hse hws hpos hf hb MX
    go_enter Try.func16, Try.ntmps16
    go_wp2_with fail
    refine (FI.out _).mono ?_
    rintro e v1 ⟨rfl, hb⟩
    have HS1 := Lib.hid (FB32.step HS0.out hb)
    clear hb
    go_wp2_with fail
    go_ret2
    exact ⟨rfl, FB32.below HS1.out⟩
  · rw [hf] at FI
    have FI := Lib.hid FI
    have hbB : whB32 x = decide (wh32 x < 18446744073709551616) := by unfold whB32; rw [hf]; rfl
    generalize whB32 x = B at *
    generalize wh32 x = W at *
    have lm : sm32 x < 18446744073709551616 := by omega
    have LM := Lib.hid lm
    generalize sm32 x = m at *
    generalize se32 x = s at *
    by_cases hA : s + 64 ≤ 149
    · have hW : W = 0 := by
        rw [hws, if_neg (by omega)]
        refine Nat.div_eq_of_lt ?_
        have h1 : (2 : Nat) ^ 64 ≤ 2 ^ (149 - s) := Nat.pow_le_pow_right (by omega) (by omega)
        omega
      have t1 : decide (-149 + (s : Int) ≤ -64) = true := decide_eq_true (by omega)
      subst hW
      have hB : B = true := by rw [hbB]; exact decide_eq_true (by omega)
      subst hB
      simp only [if_true]
      clear hx hsm hse hws hpos hf hbB lm hA
      go_enter Try.func16, Try.ntmps16
      go_wp2_with fail
      refine (FI.out _).mono ?_
      rintro e v1 ⟨rfl, hb⟩
      have hs := FB32.step HS0.out hb
      have HS1 := Lib.hid hs
      clear hb
      obtain ⟨c0, c1, c2, c3, c4, c5, c6⟩ := hs
      clear c5 c6
      go_wp2_with fail
      refine (MX.out _).mono ?_
      rintro e v2 ⟨rfl, hb⟩
      have HS2 := Lib.hid (FB32.step HS1.out hb)
      clear hb c0 c1 c2 c3 c4
      go_wp2_with fail
      go_ret2
      exact ⟨rfl, FB32.below HS2.out⟩
    · have t1 : decide (-149 + (s : Int) ≤ -64) = false := decide_eq_false (by omega)
      by_cases hB0 : s < 149
      · rw [if_neg (by omega)] at hws
        have t2 : decide (-149 + (s : Int) < 0) = true := decide_eq_true (by omega)
        have s1 : IntKind.i64.wrap (-(-149 + (s : Int))) = ((149 - s : Nat) : Int) := by rw [IntWalk.i64_in _ (by omega)]; omega
        have hWlt : W < 18446744073709551616 := by
          rw [hws]; exact Nat.lt_of_le_of_lt (Nat.div_le_self _ _) lm
        have hB : B = true := by rw [hbB]; exact decide_eq_true hWlt
        have f1 := shr_val (d := 149 - s) lm
        have hd : 149 - s < 64 := by omega
        rw [← hws, Nat.min_eq_left (Nat.le_of_lt hd)] at f1
        subst hB
        simp only [if_true]
        generalize 149 - s = d at *
        clear hx hsm hse hws hpos hf hbB lm hA hB0
        go_enter Try.func16, Try.ntmps16
        go_wp2_with fail
        refine (FI.out _).mono ?_
        rintro e v1 ⟨rfl, hb⟩
        have hs := FB32.step HS0.out hb
        have HS1 := Lib.hid hs
        clear hb
        obtain ⟨c0, c1, c2, c3, c4, c5, c6⟩ := hs
        clear c5 c6
        go_wp2_with fail
        refine (MX.out _).mono ?_
        rintro e v2 ⟨rfl, hb⟩
        have HS2 := Lib.hid (FB32.step HS1.out hb)
        clear hb c0 c1 c2 c3 c4
        go_wp2_with fail
        go_ret2
        exact ⟨rfl, FB32.below HS2.out⟩
      · rw [if_pos (by omega)] at hws
        have hm0 := hpos (by omega)
        have t2 : decide (-149 + (s : Int) < 0) = false := decide_eq_false (by omega)
        have s1 : -149 + (s : Int) = ((s - 149 : Nat) : Int) := by omega
        have hds : s - 149 < 255 := by omega
        have hbl := blen_le (a := m) (K := 2) (by exact Nat.lt_of_lt_of_le lm (by decide))
        obtain ⟨b1, b2, b3⟩ := blen_pos hm0
        generalize s - 149 = d at *
        have LN := fun (w : World) (va : Value) (h1 : NatAt w va m) => natLen 4 (by omega) h1 (pow_lt_K (k := 64) (K := 4) LM.out (by omega))
        rw [s1] at t1 t2 MX
        have s2 : IntKind.i64.wrap ((blen m : Int) + (d : Int)) = (blen m : Int) + (d : Int) := IntWalk.i64_in _ (by omega)
        by_cases hC : 64 < blen m + d
        · have t3 : decide (64 < (blen m : Int) + (d : Int)) = true := decide_eq_true (by omega)
          have hWge : 18446744073709551616 ≤ W := by
            rw [hws]
            have h1 : 2 ^ (blen m - 1) * 2 ^ d ≤ m * 2 ^ d := Nat.mul_le_mul_right _ b2
            rw [← Nat.pow_add] at h1
            have h2 : (2 : Nat) ^ 64 ≤ 2 ^ (blen m - 1 + d) := Nat.pow_le_pow_right (by omega) (by omega)
            exact Nat.le_trans h2 h1
          have hB : B = false := by rw [hbB]; exact decide_eq_false (by omega)
          have t4 : ((m : Int) == 0) = false := beq_eq_false_iff_ne.mpr (by omega)
          subst hB
          simp only [Bool.false_eq_true, if_false]
          generalize blen m = bl at *
          have LN := Lib.hid LN
          clear hx hsm hse hws hpos hf hbB lm hA hB0 hWge b1 b2 b3 hm0 hC s1
          go_enter Try.func16, Try.ntmps16
          go_wp2_with fail
          refine (FI.out _).mono ?_
          rintro e v1 ⟨rfl, hb⟩
          have hs := FB32.step HS0.out hb
          have HS1 := Lib.hid hs
          clear hb
          obtain ⟨c0, c1, c2, c3, c4, c5, c6⟩ := hs
          clear c5 c6
          go_wp2_with fail
          refine (MX.out _).mono ?_
          rintro e v2 ⟨rfl, hb⟩
          have HS2 := Lib.hid (FB32.step HS1.out hb)
          clear hb c0 c1 c2 c3 c4
          go_wp2_with fail
          refine (natOf_any _ m LM.out).mono ?_
          rintro e v3 ⟨va, rfl, na, ba⟩
          have HS3 := Lib.hid (FB32.step HS2.out ba)
          have C3 := Lib.hid (LN.out _ _ na)
          clear ba na
          go_wp2_with fail
          refine (C3.out).mono ?_
          rintro e v4 ⟨rfl, rfl⟩
          go_wp2_with fail
          go_ret2
          exact ⟨rfl, FB32.below HS3.out⟩
        · have t3 : decide (64 < (blen m : Int) + (d : Int)) = false := decide_eq_false (by omega)
          have hWlt : W < 18446744073709551616 := by
            rw [hws]
            have h1 : m * 2 ^ d < 2 ^ blen m * 2 ^ d := Nat.mul_lt_mul_of_pos_right b3 (two_pow_pos d)
            rw [← Nat.pow_add] at h1
            have h2 : (2 : Nat) ^ (blen m + d) ≤ 2 ^ 64 := Nat.pow_le_pow_right (by omega) (by omega)
            exact Nat.lt_of_lt_of_le h1 h2
          have hB : B = true := by rw [hbB]; exact decide_eq_true hWlt
          have f1 := shl_val (m := m) (d := d) (by rw [← hws]; exact hWlt) hm0
          have hd : d ≤ 64 := by omega
          rw [← hws, Nat.min_eq_left hd] at f1
          subst hB
          simp only [if_true]
          generalize blen m = bl at *
          have LN := Lib.hid LN
          clear hx hsm hse hws hpos hf hbB lm hA hB0 hWlt b1 b2 b3 hm0 hC s1
          go_enter Try.func16, Try.ntmps16
          go_wp2_with fail
          refine (FI.out _).mono ?_
          rintro e v1 ⟨rfl, hb⟩
          have hs := FB32.step HS0.out hb
          have HS1 := Lib.hid hs
          clear hb
          obtain ⟨c0, c1, c2, c3, c4, c5, c6⟩ := hs
          clear c5 c6
          go_wp2_with fail
          refine (MX.out _).mono ?_
          rintro e v2 ⟨rfl, hb⟩
          have HS2 := Lib.hid (FB32.step HS1.out hb)
          clear hb c0 c1 c2 c3 c4
          go_wp2_with fail
          refine (natOf_any _ m LM.out).mono ?_
          rintro e v3 ⟨va, rfl, na, ba⟩
          have HS3 := Lib.hid (FB32.step HS2.out ba)
          have C3 := Lib.hid (LN.out _ _ na)
          clear ba na
          go_wp2_with fail
          refine (C3.out).mono ?_
          rintro e v4 ⟨rfl, rfl⟩
          go_wp2_with fail
          go_ret2
          exact ⟨rfl, FB32.below HS3.out⟩
end Go.Proofs.Ytignbdajgnnlpaa.SF
