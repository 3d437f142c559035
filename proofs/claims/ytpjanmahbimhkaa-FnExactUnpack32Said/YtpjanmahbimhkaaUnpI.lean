/-
  The thin package's Unpack64 and Unpack32, and packing what was unpacked.
-/
import Derived.Test.YtpjanmahbimhkaaPackR
import Derived.Test.YtpjanmahbimhkaaAlg
import Derived.Test.YtpjanmahbimhkaaFmt
import Derived.Test.YtpjanmahbimhkaaNarW
namespace Go.Proofs.Ytpjanmahbimhkaa.SF
open Go.ChangeShapes Go.WideShapes Go.ChangeAt Go.RowKit
set_option linter.unusedVariables false

theorem um_lt64 (x : Nat) : um64 x < 18446744073709551616 := by
  rcases kinds64 x with h | ⟨_, _, _, h, _⟩ | ⟨_, _, _, h, _⟩ | ⟨_, _, _, _, _, _, h, _⟩
  · have h1 := nan_iff64.mp h
    have h2 := mag_lt64 x
    have e : um64 x = mag64 x % 4503599627370496 := by
      unfold um64 um
      have hd : mag64 x / 2 ^ 52 = 2047 := by omega
      rw [if_neg (by rw [hd]; omega), if_pos hd]
    omega
  · omega
  · omega
  · omega
set_option maxRecDepth 100000 in
theorem Funpack64_any (x : Nat) (w : World) (hx : x < 18446744073709551616) : Calls Try.prog 70 #[.int .u64 (x : Int)] w (RetW (.tuple #[.int .u64 ((sgn64 (neg64 x) 0 : Nat) : Int), .int .u64 (um64 x : Int), .int .i64 (ue64 x), .bool (isInf64 x), .bool (isNaN64 x)]) w) := by
  have H1 := funpack64_any x w hx
  unfold Tup564 at H1
  rw [sb_sgn64 hx] at H1
  generalize sgn64 (neg64 x) 0 = s at *
  generalize um64 x = m at *
  generalize ue64 x = e at *
  generalize isInf64 x = i at *
  generalize isNaN64 x = n at *
  have H := Lib.hid H1
  clear hx H1
  go_enter Try.func70, Try.ntmps70
  go_wp2_with fail
  refine (H.out).mono ?_
  rintro e w' ⟨rfl, rfl⟩
  go_wp2_with fail
  refine bodyPost_ret (results_tmp5 rfl _ _ _) rfl ?_
  exact ⟨rfl, rfl⟩
set_option maxRecDepth 100000 in
theorem implUnpack64 (x : Nat) (w : World) (hx : x < 18446744073709551616) : Calls Try.prog 38 #[.int .u64 (x : Int)] w (RetB (.agg #[.int .u64 ((sgn64 (neg64 x) 0 : Nat) : Int), .int .u64 (um64 x : Int), .int .i64 (ue64 x), .bool (isInf64 x), .bool (isNaN64 x)]) w) := by
  have H1 := fun w => Funpack64_any x w hx
  have ls := sgn_lt64 (neg64 x) (b := 0) (by omega)
  have lm : um64 x < 18446744073709551616 := um_lt64 x
  have w1 : IntKind.u64.wrap ((sgn64 (neg64 x) 0 : Nat) : Int) = ((sgn64 (neg64 x) 0 : Nat) : Int) := wrap_u64_nat (by omega)
  have w2 : IntKind.u64.wrap (um64 x : Int) = (um64 x : Int) := wrap_u64_nat (by omega)
  generalize sgn64 (neg64 x) 0 = s at *
  generalize um64 x = m at *
  generalize ue64 x = e at *
  generalize isInf64 x = i at *
  generalize isNaN64 x = n at *
  have H := Lib.hid H1
  clear hx H1
  go_enter Try.func38, Try.ntmps38
  go_wp2_with fail
  refine (H.out _).mono ?_
  rintro e w' ⟨rfl, rfl⟩
  go_wp2_with fail
  refine bodyPost_ret (v := .agg #[.int .u64 (s : Int), .int .u64 (m : Int), .int .i64 e, .bool i, .bool n]) (by simp [results, Try.results38, go_sem]) rfl ⟨rfl, (Below.refl _ _).alloc (Nat.le_refl _) _⟩
theorem um_lt32 (x : Nat) : um32 x < 4294967296 := by
  rcases kinds32 x with h | ⟨_, _, _, h, _⟩ | ⟨_, _, _, h, _⟩ | ⟨_, _, _, _, _, _, h, _⟩
  · have h1 := nan_iff32.mp h
    have h2 := mag_lt32 x
    have e : um32 x = mag32 x % 8388608 := by
      unfold um32 um
      have hd : mag32 x / 2 ^ 23 = 255 := by omega
      rw [if_neg (by rw [hd]; omega), if_pos hd]
    omega
  · omega
  · omega
  · omega
set_option maxRecDepth 100000 in
theorem Funpack32_any (x : Nat) (w : World) (hx : x < 4294967296) : Calls Try.prog 67 #[.int .u32 (x : Int)] w (RetW (.tuple #[.int .u32 ((sgn32 (neg32 x) 0 : Nat) : Int), .int .u32 (um32 x : Int), .int .i64 (ue32 x), .bool (isInf32 x), .bool (isNaN32 x)]) w) := by
  have H1 := funpack32_any x w hx
  unfold Tup532 at H1
  rw [sb_sgn32 hx] at H1
  generalize sgn32 (neg32 x) 0 = s at *
  generalize um32 x = m at *
  generalize ue32 x = e at *
  generalize isInf32 x = i at *
  generalize isNaN32 x = n at *
  have H := Lib.hid H1
  clear hx H1
  go_enter Try.func67, Try.ntmps67
  go_wp2_with fail
  refine (H.out).mono ?_
  rintro e w' ⟨rfl, rfl⟩
  go_wp2_with fail
  refine bodyPost_ret (results_tmp5 rfl _ _ _) rfl ?_
  exact ⟨rfl, rfl⟩
set_option maxRecDepth 100000 in
theorem implUnpack32 (x : Nat) (w : World) (hx : x < 4294967296) : Calls Try.prog 31 #[.int .u32 (x : Int)] w (RetB (.agg #[.int .u64 ((sgn32 (neg32 x) 0 : Nat) : Int), .int .u64 (um32 x : Int), .int .i64 (ue32 x), .bool (isInf32 x), .bool (isNaN32 x)]) w) := by
  have H1 := fun w => Funpack32_any x w hx
  have ls := sgn_lt32 (neg32 x) (b := 0) (by omega)
  have lm : um32 x < 4294967296 := um_lt32 x
  have w1 : IntKind.u64.wrap ((sgn32 (neg32 x) 0 : Nat) : Int) = ((sgn32 (neg32 x) 0 : Nat) : Int) := wrap_u64_nat (by omega)
  have w2 : IntKind.u64.wrap (um32 x : Int) = (um32 x : Int) := wrap_u64_nat (by omega)
  generalize sgn32 (neg32 x) 0 = s at *
  generalize um32 x = m at *
  generalize ue32 x = e at *
  generalize isInf32 x = i at *
  generalize isNaN32 x = n at *
  have H := Lib.hid H1
  clear hx H1
  go_enter Try.func31, Try.ntmps31
  go_wp2_with fail
  refine (H.out _).mono ?_
  rintro e w' ⟨rfl, rfl⟩
  go_wp2_with fail
  refine bodyPost_ret (v := .agg #[.int .u64 (s : Int), .int .u64 (m : Int), .int .i64 e, .bool i, .bool n]) (by simp [results, Try.results31, go_sem]) rfl ⟨rfl, (Below.refl _ _).alloc (Nat.le_refl _) _⟩
theorem unp_pst64 {mx vx t1 : Nat} {ex : Int} (a1 : 4503599627370496 ≤ mx) (a2 : mx < 9007199254740992) (c1 : -1074 ≤ ex) (c2 : ex ≤ 1023) (ht1 : (t1 : Int) = ex + 1074) (hv1 : mx * 2 ^ t1 = vx * 4503599627370496) :
    ∃ t A, PSt64 4503599627370496 3000 A 1 mx 0 t ex ∧ 64 ≤ t ∧ vx * (1 * 2 ^ 3000) = A * 1 := by
  obtain ⟨t, ht⟩ : ∃ t : Nat, (t : Int) = ex + 1022 + 3000 := ⟨(ex + 1022 + 3000).toNat, by omega⟩
  refine ⟨t, mx * (2 ^ t * 1), ⟨⟨fun _ => rfl, fun h => absurd rfl h⟩, by omega, fun h => absurd rfl h, by omega, by omega⟩, by omega, ?_⟩
  have h := nar_aux (mx := mx) (vx := vx) (t1 := t1) (t := t) (c := 3000) (d := 0) (f := 52) hv1 (by omega)
  rw [h, Nat.pow_zero, Nat.mul_one, Nat.mul_one, Nat.mul_one]
theorem unp_pst32 {mx vx t1 : Nat} {ex : Int} (a1 : 8388608 ≤ mx) (a2 : mx < 16777216) (c1 : -149 ≤ ex) (c2 : ex ≤ 127) (ht1 : (t1 : Int) = ex + 149) (hv1 : mx * 2 ^ t1 = vx * 8388608) :
    ∃ t A, PSt32 8388608 3000 A 1 mx 0 t ex ∧ 64 ≤ t ∧ vx * (1 * 2 ^ 3000) = A * 1 := by
  obtain ⟨t, ht⟩ : ∃ t : Nat, (t : Int) = ex + 126 + 3000 := ⟨(ex + 126 + 3000).toNat, by omega⟩
  refine ⟨t, mx * (2 ^ t * 1), ⟨⟨fun _ => rfl, fun h => absurd rfl h⟩, by omega, fun h => absurd rfl h, by omega, by omega⟩, by omega, ?_⟩
  have h := nar_aux (mx := mx) (vx := vx) (t1 := t1) (t := t) (c := 3000) (d := 0) (f := 23) hv1 (by omega)
  rw [h, Nat.pow_zero, Nat.mul_one, Nat.mul_one, Nat.mul_one]
end Go.Proofs.Ytpjanmahbimhkaa.SF
