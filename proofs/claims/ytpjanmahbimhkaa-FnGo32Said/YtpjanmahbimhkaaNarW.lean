/-
  The walks through f64to32 and f32to64.
-/
import Derived.Test.YtpjanmahbimhkaaPackR
namespace Go.Proofs.Ytpjanmahbimhkaa.SF
open Go.ChangeShapes Go.WideShapes Go.ChangeAt Go.RowKit
set_option linter.unusedVariables false

theorem nar_aux {mx vx t1 t c d f : Nat} (hv1 : mx * 2 ^ t1 = vx * 2 ^ f) (h : t + d + f = t1 + c) : vx * (1 * 2 ^ c) = mx * 2 ^ t * 2 ^ d := by
  apply Nat.eq_of_mul_eq_mul_right (two_pow_pos f)
  calc vx * (1 * 2 ^ c) * 2 ^ f = (vx * 2 ^ f) * 2 ^ c := by rw [Nat.one_mul]; ac_rfl
    _ = mx * 2 ^ t1 * 2 ^ c := by rw [hv1]
    _ = mx * 2 ^ (t + d + f) := by rw [h, Nat.pow_add, Nat.mul_assoc]
    _ = mx * 2 ^ t * 2 ^ d * 2 ^ f := by rw [Nat.pow_add, Nat.pow_add]; ac_rfl
theorem wid_aux {mx vx t1 t a b f g : Nat} (hv1 : mx * 2 ^ t1 = vx * 2 ^ f) (h : g + t + f = t1 + (a + b)) : vx * 2 ^ a * (1 * 2 ^ b) = mx * 2 ^ g * (2 ^ t * 1) * 1 := by
  apply Nat.eq_of_mul_eq_mul_right (two_pow_pos f)
  calc vx * 2 ^ a * (1 * 2 ^ b) * 2 ^ f = (vx * 2 ^ f) * (2 ^ a * 2 ^ b) := by rw [Nat.one_mul]; ac_rfl
    _ = mx * 2 ^ t1 * 2 ^ (a + b) := by rw [hv1, Nat.pow_add]
    _ = mx * 2 ^ (g + t + f) := by rw [h, Nat.pow_add 2 t1, Nat.mul_assoc]
    _ = mx * 2 ^ g * (2 ^ t * 1) * 1 * 2 ^ f := by rw [Nat.pow_add, Nat.pow_add, Nat.mul_one, Nat.mul_one]; ac_rfl

theorem nar_pst {mx vx t1 : Nat} {ex : Int} (a1 : 4503599627370496 ≤ mx) (a2 : mx < 9007199254740992) (c1 : -1074 ≤ ex) (c2 : ex ≤ 1023) (ht1 : (t1 : Int) = ex + 1074) (hv1 : mx * 2 ^ t1 = vx * 4503599627370496) :
    ∃ t A, PSt32 8388608 3000 A 1 (mx / 268435456) (mx % 268435456) t (ex - 1) ∧ 64 ≤ t ∧ 0 < mx / 268435456 ∧ vx * (1 * 2 ^ 3000) = A * 2 ^ 925 := by
  obtain ⟨t, ht⟩ : ∃ t : Nat, (t : Int) = ex - 1 + 126 + 3000 := ⟨(ex - 1 + 126 + 3000).toNat, by omega⟩
  refine ⟨t, mx * 2 ^ (t - 28), ⟨rep_div mx 28 t (by omega), by omega, fun _ => by omega, by omega, by omega⟩, by omega, by omega, ?_⟩
  exact nar_aux hv1 (c := 3000) (t := t - 28) (d := 925) (f := 52) (by omega)

set_option maxRecDepth 100000 in
set_option maxHeartbeats 1000000 in
theorem f64to32_ret (x : Nat) (w : World) (hx : x < 18446744073709551616) :
    Calls Try.prog 109 #[.int .u64 (x : Int)] w (RetW (.int .u32 (narrow x : Int)) w) := by
  have H1 := funpack64_any x w hx
  unfold Tup564 at H1
  rw [sb_sgn64 hx] at H1
  have es : ((sgn64 (neg64 x) 0 : Nat) : Int) / 4294967296 = ((sgn32 (neg64 x) 0 : Nat) : Int) := by cases neg64 x <;> decide
  have es2 : IntKind.u32.wrap ((sgn32 (neg64 x) 0 : Nat) : Int) = ((sgn32 (neg64 x) 0 : Nat) : Int) := by cases neg64 x <;> decide
  rcases kinds64 x with nx | ⟨nx, ix, zx, mx, gx⟩ | ⟨nx, ix, zx, mx, gx, ex0⟩ | ⟨nx, ix, zx, gx1, gx2, mx1, mx2, ex1, ex2, t1, et1, vt1⟩
  · have eR : narrow x = 2143289344 := by simp [narrow, nx]
    rw [eR]
    rw [nx] at H1
    have G1 := Lib.hid H1
    clear H1 hx es es2
    go_enter Try.func109, Try.ntmps109
    go_wp2_with fail
    refine (G1.out).mono ?_
    rintro e w' ⟨rfl, rfl⟩
    go_wp2_with fail
    go_ret
    exact ⟨rfl, rfl⟩
  · have eR : narrow x = sgn32 (neg64 x) 2139095040 := by simp [narrow, nx, ix]
    have xi : bits .xor .u32 ((sgn32 (neg64 x) 0 : Nat) : Int) 2139095040 = ((sgn32 (neg64 x) 2139095040 : Nat) : Int) := by cases neg64 x <;> decide
    rw [eR]
    rw [nx, ix] at H1
    generalize sgn32 (neg64 x) 2139095040 = R at *
    generalize sgn32 (neg64 x) 0 = s32 at *
    generalize sgn64 (neg64 x) 0 = s64 at *
    have G1 := Lib.hid H1
    clear H1 hx nx ix zx mx gx eR
    go_enter Try.func109, Try.ntmps109
    go_wp2_with fail
    refine (G1.out).mono ?_
    rintro e w' ⟨rfl, rfl⟩
    go_wp2_with fail
    go_ret
    exact ⟨rfl, rfl⟩
  · have eR : narrow x = sgn32 (neg64 x) 0 := by
      have hv : val64 x = 0 := by unfold val64; rw [gx, val_zero]
      simp only [narrow, nx, ix, hv, Bool.false_eq_true, if_false]
      exact rd_zero32 _ (two_pow_pos 925)
    rw [eR]
    rw [nx, ix, mx, ex0] at H1
    have HP := fpackZ32 (neg64 x) 0 (-1) w
    generalize sgn32 (neg64 x) 0 = s32 at *
    generalize sgn64 (neg64 x) 0 = s64 at *
    have G1 := Lib.hid H1
    have G2 := Lib.hid HP
    clear H1 HP hx nx ix zx mx gx ex0 eR
    go_enter Try.func109, Try.ntmps109
    go_wp2_with fail
    refine (G1.out).mono ?_
    rintro e w' ⟨rfl, rfl⟩
    go_wp2_with fail
    refine (G2.out).mono ?_
    rintro e w' ⟨rfl, rfl⟩
    go_wp2_with fail
    go_ret
    exact ⟨rfl, rfl⟩
  · have eR : narrow x = rd32 (neg64 x) (val64 x) (2 ^ 925) := by simp only [narrow, nx, ix, Bool.false_eq_true, if_false]
    rw [eR]
    rw [nx, ix] at H1
    obtain ⟨t, A, hst, ht64, hm0, heq⟩ := nar_pst mx1 mx2 ex1 ex2 et1 vt1
    have HP := fpackR32 (neg64 x) _ _ (ue64 x - 1) _ 1 3000 t (val64 x) (2 ^ 925) w hm0 (by omega) (by omega) ht64 (by omega) hst (two_pow_pos 925) heq
    have f1 : IntKind.u32.wrap ((um64 x : Int) / 268435456) = ((um64 x / 268435456 : Nat) : Int) := by rw [IntKind.wrap_u32']; omega
    have f2 : bits .and .u64 (um64 x : Int) 268435455 = ((um64 x % 268435456 : Nat) : Int) := by
      rw [show (268435455 : Int) = ((268435455 : Nat) : Int) from rfl, u64_and_nat _ _ (by omega) (by omega)]
      congr 1
      exact Nat.and_two_pow_sub_one_eq_mod _ 28
    have f3 : IntKind.u32.wrap ((um64 x % 268435456 : Nat) : Int) = ((um64 x % 268435456 : Nat) : Int) := wrap_u32_nat (by omega)
    have f4 : (um64 x : Int) / 268435456 = ((um64 x / 268435456 : Nat) : Int) := by omega
    have b1 : um64 x / 268435456 < 33554432 := by omega
    have b2 : um64 x % 268435456 < 268435456 := by omega
    rw [f4] at f1
    generalize um64 x / 268435456 = M at *
    generalize um64 x % 268435456 = r at *
    generalize rd32 (neg64 x) (val64 x) (2 ^ 925) = R at *
    generalize um64 x = ux at *
    generalize ue64 x = exx at *
    generalize sgn32 (neg64 x) 0 = s32 at *
    generalize sgn64 (neg64 x) 0 = s64 at *
    have G1 := Lib.hid H1
    have G2 := Lib.hid HP
    clear H1 HP hx nx ix zx eR hst heq vt1 et1 gx1 gx2 ht64 hm0
    go_enter Try.func109, Try.ntmps109
    go_wp2_with fail
    refine (G1.out).mono ?_
    rintro e w' ⟨rfl, rfl⟩
    go_wp2_with fail
    refine (G2.out).mono ?_
    rintro e w' ⟨rfl, rfl⟩
    go_wp2_with fail
    go_ret
    exact ⟨rfl, rfl⟩
theorem wid_pst {mx vx t1 : Nat} {ex : Int} (a1 : 8388608 ≤ mx) (a2 : mx < 16777216) (c1 : -149 ≤ ex) (c2 : ex ≤ 127) (ht1 : (t1 : Int) = ex + 149) (hv1 : mx * 2 ^ t1 = vx * 8388608) :
    ∃ t A, PSt64 4503599627370496 3000 A 1 (mx * 536870912) 0 t ex ∧ 64 ≤ t ∧ 0 < mx * 536870912 ∧ vx * 2 ^ 925 * (1 * 2 ^ 3000) = A * 1 := by
  obtain ⟨t, ht⟩ : ∃ t : Nat, (t : Int) = ex + 1022 + 3000 := ⟨(ex + 1022 + 3000).toNat, by omega⟩
  refine ⟨t, mx * 536870912 * (2 ^ t * 1), ⟨⟨fun _ => rfl, fun h => absurd rfl h⟩, by omega, fun h => absurd rfl h, by omega, by omega⟩, by omega, by omega, ?_⟩
  exact wid_aux hv1 (a := 925) (b := 3000) (t := t) (g := 29) (f := 23) (by omega)

set_option maxRecDepth 100000 in
set_option maxHeartbeats 1000000 in
theorem f32to64_ret (x : Nat) (w : World) (hx : x < 4294967296) :
    Calls Try.prog 110 #[.int .u32 (x : Int)] w (RetW (.int .u64 (widen x : Int)) w) := by
  have H1 := funpack32_any x w hx
  unfold Tup532 at H1
  rw [sb_sgn32 hx] at H1
  have es0 : IntKind.u64.wrap ((sgn32 (neg32 x) 0 : Nat) : Int) = ((sgn32 (neg32 x) 0 : Nat) : Int) := by cases neg32 x <;> decide
  have es : IntKind.u64.wrap (((sgn32 (neg32 x) 0 : Nat) : Int) * 4294967296) = ((sgn64 (neg32 x) 0 : Nat) : Int) := by cases neg32 x <;> decide
  have es2 : ((sgn32 (neg32 x) 0 : Nat) : Int) * 4294967296 = ((sgn64 (neg32 x) 0 : Nat) : Int) := by cases neg32 x <;> decide
  have sl : sgn32 (neg32 x) 0 < 4294967296 := sgn_lt32 _ (by omega)
  rcases kinds32 x with nx | ⟨nx, ix, zx, mx, gx⟩ | ⟨nx, ix, zx, mx, gx, ex0⟩ | ⟨nx, ix, zx, gx1, gx2, mx1, mx2, ex1, ex2, t1, et1, vt1⟩
  · have eR : widen x = 9221120237041090560 := by simp [widen, nx]
    rw [eR]
    rw [nx] at H1
    have G1 := Lib.hid H1
    clear H1 hx es es2 es0 sl
    go_enter Try.func110, Try.ntmps110
    go_wp2_with fail
    refine (G1.out).mono ?_
    rintro e w' ⟨rfl, rfl⟩
    go_wp2_with fail
    go_ret
    exact ⟨rfl, rfl⟩
  · have eR : widen x = sgn64 (neg32 x) 9218868437227405312 := by simp [widen, nx, ix]
    have xi : bits .xor .u64 ((sgn64 (neg32 x) 0 : Nat) : Int) 9218868437227405312 = ((sgn64 (neg32 x) 9218868437227405312 : Nat) : Int) := by cases neg32 x <;> decide
    rw [eR]
    rw [nx, ix] at H1
    generalize sgn64 (neg32 x) 9218868437227405312 = R at *
    generalize sgn32 (neg32 x) 0 = s32 at *
    generalize sgn64 (neg32 x) 0 = s64 at *
    have G1 := Lib.hid H1
    clear H1 hx nx ix zx mx gx eR
    go_enter Try.func110, Try.ntmps110
    go_wp2_with fail
    refine (G1.out).mono ?_
    rintro e w' ⟨rfl, rfl⟩
    go_wp2_with fail
    go_ret
    exact ⟨rfl, rfl⟩
  · have eR : widen x = sgn64 (neg32 x) 0 := by
      have hv : val32 x = 0 := by unfold val32; rw [gx, val_zero]
      simp only [widen, nx, ix, hv, Nat.zero_mul, Bool.false_eq_true, if_false]
      exact rd_zero64 _ (by omega)
    rw [eR]
    rw [nx, ix, mx, ex0] at H1
    have HP := fpackZ64 (neg32 x) 0 0 w
    generalize sgn32 (neg32 x) 0 = s32 at *
    generalize sgn64 (neg32 x) 0 = s64 at *
    have G1 := Lib.hid H1
    have G2 := Lib.hid HP
    clear H1 HP hx nx ix zx mx gx ex0 eR
    go_enter Try.func110, Try.ntmps110
    go_wp2_with fail
    refine (G1.out).mono ?_
    rintro e w' ⟨rfl, rfl⟩
    go_wp2_with fail
    refine (G2.out).mono ?_
    rintro e w' ⟨rfl, rfl⟩
    go_wp2_with fail
    go_ret
    exact ⟨rfl, rfl⟩
  · have eR : widen x = rd64 (neg32 x) (val32 x * 2 ^ 925) 1 := by simp only [widen, nx, ix, Bool.false_eq_true, if_false]
    rw [eR]
    rw [nx, ix] at H1
    obtain ⟨t, A, hst, ht64, hm0, heq⟩ := wid_pst mx1 mx2 ex1 ex2 et1 vt1
    have HP := fpackR64 (neg32 x) _ 0 (ue32 x) _ 1 3000 t (val32 x * 2 ^ 925) 1 w hm0 (by omega) (by omega) ht64 (by omega) hst (by omega) heq
    have f1 : (um32 x : Int) * 536870912 = ((um32 x * 536870912 : Nat) : Int) := by omega
    have f0 : IntKind.u64.wrap (um32 x : Int) = (um32 x : Int) := wrap_u64_nat (by omega)
    have b1 : um32 x * 536870912 < 9007199254740992 := by omega
    clear hst heq vt1 et1 eR
    generalize rd64 (neg32 x) (val32 x * 2 ^ 925) 1 = R at *
    generalize um32 x * 536870912 = M at *
    generalize um32 x = ux at *
    generalize ue32 x = exx at *
    generalize sgn32 (neg32 x) 0 = s32 at *
    generalize sgn64 (neg32 x) 0 = s64 at *
    have G1 := Lib.hid H1
    have G2 := Lib.hid HP
    clear H1 HP hx nx ix zx gx1 gx2 ht64 hm0
    go_enter Try.func110, Try.ntmps110
    go_wp2_with fail
    refine (G1.out).mono ?_
    rintro e w' ⟨rfl, rfl⟩
    go_wp2_with fail
    refine (G2.out).mono ?_
    rintro e w' ⟨rfl, rfl⟩
    go_wp2_with fail
    go_ret
    exact ⟨rfl, rfl⟩
end Go.Proofs.Ytpjanmahbimhkaa.SF
