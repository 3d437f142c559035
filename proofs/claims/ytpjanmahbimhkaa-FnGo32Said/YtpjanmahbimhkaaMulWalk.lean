/-
  The walk through fmul64.
-/
import Derived.Test.YtpjanmahbimhkaaPackR
import Derived.Test.YtpjanmahbimhkaaMul
namespace Go.Proofs.Ytpjanmahbimhkaa.SF
open Go.ChangeShapes Go.WideShapes Go.ChangeAt Go.RowKit
set_option linter.unusedVariables false

theorem mul_pst {x y mx my t1 t2 lo hi P : Nat} {ex ey : Int} (a1 : 4503599627370496 ≤ mx) (a2 : mx < 9007199254740992) (b1 : 4503599627370496 ≤ my) (b2 : my < 9007199254740992)
    (ht1 : (t1 : Int) = ex + 1074) (ht2 : (t2 : Int) = ey + 1074) (hv1 : mx * 2 ^ t1 = val64 x * 4503599627370496) (hv2 : my * 2 ^ t2 = val64 y * 4503599627370496) (hP : P = mx * my) :
    ∃ t, PSt64 4503599627370496 3000 (val64 x * val64 y * 2 ^ 1926) 1 (P / 2251799813685248) (P % 2251799813685248) t (ex + ey - 1) ∧ 64 ≤ t ∧ 0 < P / 2251799813685248 := by
  have hP1 : 4503599627370496 * 4503599627370496 ≤ P := by rw [hP]; exact Nat.mul_le_mul a1 b1
  have hP2 : P ≤ 9007199254740992 * 9007199254740992 := by rw [hP]; exact Nat.mul_le_mul (by omega) (by omega)
  refine ⟨t1 + t2 + 1873, ⟨?_, by omega, fun _ => by omega, by omega, by omega⟩, by omega, by omega⟩
  have h := rep_div P 51 (t1 + t2 + 1873) (by omega)
  have e : P * 2 ^ (t1 + t2 + 1873 - 51) = val64 x * val64 y * 2 ^ 1926 := by
    have e1 : P * 2 ^ (t1 + t2) = val64 x * val64 y * 2 ^ 104 := by
      calc P * 2 ^ (t1 + t2) = (mx * 2 ^ t1) * (my * 2 ^ t2) := by rw [hP, Nat.pow_add]; ac_rfl
        _ = (val64 x * 2 ^ 52) * (val64 y * 2 ^ 52) := by rw [hv1, hv2]
        _ = val64 x * val64 y * (2 ^ 52 * 2 ^ 52) := by ac_rfl
        _ = val64 x * val64 y * 2 ^ 104 := by rw [← Nat.pow_add]
    rw [show t1 + t2 + 1873 - 51 = (t1 + t2) + 1822 by omega, Nat.pow_add, ← Nat.mul_assoc, e1, Nat.mul_assoc, pow_cat (a := 104) (b := 1822) (c := 1926) rfl]
  rw [e] at h
  exact h

set_option maxRecDepth 100000 in
set_option maxHeartbeats 2000000 in
theorem fmul64_ret (x y : Nat) (w : World) (hx : x < 18446744073709551616) (hy : y < 18446744073709551616) :
    Calls Try.prog 86 #[.int .u64 (x : Int), .int .u64 (y : Int)] w (RetW (.int .u64 (mul64 x y : Int)) w) := by
  have H1 := funpack64_any x w hx
  have H2 := funpack64_any y w hy
  unfold Tup564 at H1 H2
  have xf := xor_flip64 hx hy
  have yf := xor_flip64 hy hx
  rw [show (neg64 y != neg64 x) = (neg64 x != neg64 y) by cases neg64 x <;> cases neg64 y <;> rfl] at yf
  rcases kinds64 x with nx | ⟨nx, ix, zx, mx, gx⟩ | ⟨nx, ix, zx, mx, gx, ex0⟩ | ⟨nx, ix, zx, gx1, gx2, mx1, mx2, ex1, ex2, t1, et1, vt1⟩
  · have eR : mul64 x y = 9221120237041090560 := by simp [mul64, nx]
    rw [eR]
    rw [nx] at H1
    have G1 := Lib.hid H1
    have G2 := Lib.hid H2
    clear H1 H2 hx hy xf yf
    go_enter Try.func86, Try.ntmps86
    go_wp2_with fail
    refine (G1.out).mono ?_
    rintro e w' ⟨rfl, rfl⟩
    go_wp2_with fail
    refine (G2.out).mono ?_
    rintro e w' ⟨rfl, rfl⟩
    go_wp2_with fail
    go_ret
    exact ⟨rfl, rfl⟩
  · rcases kinds64 y with ny | ⟨ny, iy, zy, my, gy⟩ | ⟨ny, iy, zy, my, gy, ey0⟩ | ⟨ny, iy, zy, gy1, gy2, my1, my2, ey1, ey2, t2, et2, vt2⟩
    · have eR : mul64 x y = 9221120237041090560 := by simp [mul64, ny]
      rw [eR]
      rw [nx] at H1
      rw [ny] at H2
      clear nx ix zx mx gx ny
      have G1 := Lib.hid H1
      have G2 := Lib.hid H2
      clear H1 H2 hx hy xf yf
      go_enter Try.func86, Try.ntmps86
      go_wp2_with fail
      refine (G1.out).mono ?_
      rintro e w' ⟨rfl, rfl⟩
      go_wp2_with fail
      refine (G2.out).mono ?_
      rintro e w' ⟨rfl, rfl⟩
      go_wp2_with fail
      go_ret
      exact ⟨rfl, rfl⟩
    · have eR : mul64 x y = sgn64 (neg64 x != neg64 y) 9218868437227405312 := by simp [mul64, nx, ix, zx, ny, iy, zy]
      rw [eR]
      rw [gx] at xf
      generalize sgn64 (neg64 x != neg64 y) 9218868437227405312 = R at *
      have XF := xf
      rw [nx, ix, mx] at H1
      rw [ny, iy, my] at H2
      clear nx ix zx mx gx ny iy zy my gy
      have G1 := Lib.hid H1
      have G2 := Lib.hid H2
      clear H1 H2 hx hy xf yf
      go_enter Try.func86, Try.ntmps86
      go_wp2_with fail
      refine (G1.out).mono ?_
      rintro e w' ⟨rfl, rfl⟩
      go_wp2_with fail
      refine (G2.out).mono ?_
      rintro e w' ⟨rfl, rfl⟩
      go_wp2_with fail
      go_ret
      exact ⟨rfl, rfl⟩
    · have eR : mul64 x y = 9221120237041090560 := by simp [mul64, nx, ix, zx, ny, iy, zy]
      rw [eR]
      rw [nx, ix, mx] at H1
      rw [ny, iy, my] at H2
      clear nx ix zx mx gx ny iy zy my gy ey0
      have G1 := Lib.hid H1
      have G2 := Lib.hid H2
      clear H1 H2 hx hy xf yf
      go_enter Try.func86, Try.ntmps86
      go_wp2_with fail
      refine (G1.out).mono ?_
      rintro e w' ⟨rfl, rfl⟩
      go_wp2_with fail
      refine (G2.out).mono ?_
      rintro e w' ⟨rfl, rfl⟩
      go_wp2_with fail
      go_ret
      exact ⟨rfl, rfl⟩
    · have eR : mul64 x y = sgn64 (neg64 x != neg64 y) 9218868437227405312 := by simp [mul64, nx, ix, zx, ny, iy, zy]
      rw [eR]
      rw [gx] at xf
      generalize sgn64 (neg64 x != neg64 y) 9218868437227405312 = R at *
      have XF := xf
      rw [nx, ix, mx] at H1
      rw [ny, iy] at H2
      have e2 : ((um64 y : Int) == 0) = false := beq_eq_false_iff_ne.mpr (by omega)
      clear nx ix zx mx gx ny iy zy gy1 gy2 my1 my2 ey1 ey2 et2 vt2
      have G1 := Lib.hid H1
      have G2 := Lib.hid H2
      clear H1 H2 hx hy xf yf
      go_enter Try.func86, Try.ntmps86
      go_wp2_with fail
      refine (G1.out).mono ?_
      rintro e w' ⟨rfl, rfl⟩
      go_wp2_with fail
      refine (G2.out).mono ?_
      rintro e w' ⟨rfl, rfl⟩
      go_wp2_with fail
      go_ret
      exact ⟨rfl, rfl⟩
  · rcases kinds64 y with ny | ⟨ny, iy, zy, my, gy⟩ | ⟨ny, iy, zy, my, gy, ey0⟩ | ⟨ny, iy, zy, gy1, gy2, my1, my2, ey1, ey2, t2, et2, vt2⟩
    · have eR : mul64 x y = 9221120237041090560 := by simp [mul64, ny]
      rw [eR]
      rw [nx] at H1
      rw [ny] at H2
      clear nx ix zx mx gx ex0 ny
      have G1 := Lib.hid H1
      have G2 := Lib.hid H2
      clear H1 H2 hx hy xf yf
      go_enter Try.func86, Try.ntmps86
      go_wp2_with fail
      refine (G1.out).mono ?_
      rintro e w' ⟨rfl, rfl⟩
      go_wp2_with fail
      refine (G2.out).mono ?_
      rintro e w' ⟨rfl, rfl⟩
      go_wp2_with fail
      go_ret
      exact ⟨rfl, rfl⟩
    · have eR : mul64 x y = 9221120237041090560 := by simp [mul64, nx, ix, zx, ny, iy, zy]
      rw [eR]
      rw [nx, ix, mx] at H1
      rw [ny, iy, my] at H2
      clear nx ix zx mx gx ex0 ny iy zy my gy
      have G1 := Lib.hid H1
      have G2 := Lib.hid H2
      clear H1 H2 hx hy xf yf
      go_enter Try.func86, Try.ntmps86
      go_wp2_with fail
      refine (G1.out).mono ?_
      rintro e w' ⟨rfl, rfl⟩
      go_wp2_with fail
      refine (G2.out).mono ?_
      rintro e w' ⟨rfl, rfl⟩
      go_wp2_with fail
      go_ret
      exact ⟨rfl, rfl⟩
    · have eR : mul64 x y = sgn64 (neg64 x != neg64 y) 0 := by
        have e0 : val64 x * val64 y = 0 := by
          unfold val64
          rw [gx, val_zero]; exact Nat.zero_mul _
        simp only [mul64, nx, ix, zx, ny, iy, zy, e0, Bool.or_false, Bool.and_false, Bool.false_eq_true, if_false]
        exact rd_zero64 _ (two_pow_pos 1074)
      rw [eR]
      rw [gx] at xf
      generalize sgn64 (neg64 x != neg64 y) 0 = R at *
      have XF := xf
      rw [nx, ix, mx] at H1
      rw [ny, iy, my] at H2
      clear nx ix zx mx gx ex0 ny iy zy my gy ey0
      have G1 := Lib.hid H1
      have G2 := Lib.hid H2
      clear H1 H2 hx hy xf yf
      go_enter Try.func86, Try.ntmps86
      go_wp2_with fail
      refine (G1.out).mono ?_
      rintro e w' ⟨rfl, rfl⟩
      go_wp2_with fail
      refine (G2.out).mono ?_
      rintro e w' ⟨rfl, rfl⟩
      go_wp2_with fail
      go_ret
      exact ⟨rfl, rfl⟩
    · have eR : mul64 x y = sgn64 (neg64 x != neg64 y) 0 := by
        have e0 : val64 x * val64 y = 0 := by
          unfold val64
          rw [gx, val_zero]; exact Nat.zero_mul _
        simp only [mul64, nx, ix, zx, ny, iy, zy, e0, Bool.or_false, Bool.and_false, Bool.false_eq_true, if_false]
        exact rd_zero64 _ (two_pow_pos 1074)
      rw [eR]
      rw [gx] at xf
      generalize sgn64 (neg64 x != neg64 y) 0 = R at *
      have XF := xf
      rw [nx, ix, mx] at H1
      rw [ny, iy] at H2
      have e2 : ((um64 y : Int) == 0) = false := beq_eq_false_iff_ne.mpr (by omega)
      clear nx ix zx mx gx ex0 ny iy zy gy1 gy2 my1 my2 ey1 ey2 et2 vt2
      have G1 := Lib.hid H1
      have G2 := Lib.hid H2
      clear H1 H2 hx hy xf yf
      go_enter Try.func86, Try.ntmps86
      go_wp2_with fail
      refine (G1.out).mono ?_
      rintro e w' ⟨rfl, rfl⟩
      go_wp2_with fail
      refine (G2.out).mono ?_
      rintro e w' ⟨rfl, rfl⟩
      go_wp2_with fail
      go_ret
      exact ⟨rfl, rfl⟩
  · rcases kinds64 y with ny | ⟨ny, iy, zy, my, gy⟩ | ⟨ny, iy, zy, my, gy, ey0⟩ | ⟨ny, iy, zy, gy1, gy2, my1, my2, ey1, ey2, t2, et2, vt2⟩
    · have eR : mul64 x y = 9221120237041090560 := by simp [mul64, ny]
      rw [eR]
      rw [nx] at H1
      rw [ny] at H2
      clear nx ix zx gx1 gx2 mx1 mx2 ex1 ex2 et1 vt1 ny
      have G1 := Lib.hid H1
      have G2 := Lib.hid H2
      clear H1 H2 hx hy xf yf
      go_enter Try.func86, Try.ntmps86
      go_wp2_with fail
      refine (G1.out).mono ?_
      rintro e w' ⟨rfl, rfl⟩
      go_wp2_with fail
      refine (G2.out).mono ?_
      rintro e w' ⟨rfl, rfl⟩
      go_wp2_with fail
      go_ret
      exact ⟨rfl, rfl⟩
    · have eR : mul64 x y = sgn64 (neg64 x != neg64 y) 9218868437227405312 := by simp [mul64, nx, ix, zx, ny, iy, zy]
      rw [eR]
      rw [gy] at yf
      generalize sgn64 (neg64 x != neg64 y) 9218868437227405312 = R at *
      have XF := yf
      rw [nx, ix] at H1
      rw [ny, iy, my] at H2
      have e1 : ((um64 x : Int) == 0) = false := beq_eq_false_iff_ne.mpr (by omega)
      clear nx ix zx gx1 gx2 mx1 mx2 ex1 ex2 et1 vt1 ny iy zy my gy
      have G1 := Lib.hid H1
      have G2 := Lib.hid H2
      clear H1 H2 hx hy xf yf
      go_enter Try.func86, Try.ntmps86
      go_wp2_with fail
      refine (G1.out).mono ?_
      rintro e w' ⟨rfl, rfl⟩
      go_wp2_with fail
      refine (G2.out).mono ?_
      rintro e w' ⟨rfl, rfl⟩
      go_wp2_with fail
      go_ret
      exact ⟨rfl, rfl⟩
    · have eR : mul64 x y = sgn64 (neg64 x != neg64 y) 0 := by
        have e0 : val64 x * val64 y = 0 := by
          unfold val64
          rw [gy, val_zero]; exact Nat.mul_zero _
        simp only [mul64, nx, ix, zx, ny, iy, zy, e0, Bool.or_false, Bool.and_false, Bool.false_eq_true, if_false]
        exact rd_zero64 _ (two_pow_pos 1074)
      rw [eR]
      rw [gy] at yf
      generalize sgn64 (neg64 x != neg64 y) 0 = R at *
      have XF := yf
      rw [nx, ix] at H1
      rw [ny, iy, my] at H2
      have e1 : ((um64 x : Int) == 0) = false := beq_eq_false_iff_ne.mpr (by omega)
      clear nx ix zx gx1 gx2 mx1 mx2 ex1 ex2 et1 vt1 ny iy zy my gy ey0
      have G1 := Lib.hid H1
      have G2 := Lib.hid H2
      clear H1 H2 hx hy xf yf
      go_enter Try.func86, Try.ntmps86
      go_wp2_with fail
      refine (G1.out).mono ?_
      rintro e w' ⟨rfl, rfl⟩
      go_wp2_with fail
      refine (G2.out).mono ?_
      rintro e w' ⟨rfl, rfl⟩
      go_wp2_with fail
      go_ret
      exact ⟨rfl, rfl⟩
    · have eR : mul64 x y = rd64 (neg64 x != neg64 y) (val64 x * val64 y) (2 ^ 1074) := by simp only [mul64, nx, ix, zx, ny, iy, zy, Bool.or_false, Bool.and_false, Bool.false_eq_true, if_false]
      rw [eR]
      rw [nx, ix] at H1
      rw [ny, iy] at H2
      have exy := xor_sgn64 (neg64 x) (neg64 y)
      rw [sb_sgn64 hx] at H1
      rw [sb_sgn64 hy] at H2
      generalize (neg64 x != neg64 y) = ng at *
      have hm := mullu_any (um64 x) (um64 y) w (by omega) (by omega)
      obtain ⟨P, hP⟩ : ∃ P, P = um64 x * um64 y := ⟨_, rfl⟩
      obtain ⟨t, hst, ht64, hm0⟩ := mul_pst (lo := 0) (hi := 0) mx1 mx2 my1 my2 et1 et2 vt1 vt2 hP
      unfold MulPost at hm
      rw [← hP] at hm
      have hP2 : P ≤ 9007199254740992 * 9007199254740992 := by rw [hP]; exact Nat.mul_le_mul (by omega) (by omega)
      have a1 : bits .and .u64 ((P % 18446744073709551616 : Nat) : Int) 2251799813685247 = ((P % 2251799813685248 : Nat) : Int) := by
        rw [show (2251799813685247 : Int) = ((2251799813685247 : Nat) : Int) from rfl, u64_and_nat _ _ (by omega) (by omega), nat_mask51]; congr 1; omega
      have a2 : bits .or .u64 (((P / 18446744073709551616 : Nat) : Int) * 8192) (((P % 18446744073709551616 : Nat) : Int) / 2251799813685248) = ((P / 2251799813685248 : Nat) : Int) := by
        rw [show ((P / 18446744073709551616 : Nat) : Int) * 8192 = ((P / 18446744073709551616 * 8192 : Nat) : Int) by omega, show ((P % 18446744073709551616 : Nat) : Int) / 2251799813685248 = ((P % 18446744073709551616 / 2251799813685248 : Nat) : Int) by omega, u64_or_nat _ _ (by omega) (by omega), or_disjoint _ _ 13 (by omega) (by omega)]; congr 1; omega
      have HP := fpackR64 ng (P / 2251799813685248) (P % 2251799813685248) (ue64 x + ue64 y - 1) _ 1 3000 t (val64 x * val64 y) (2 ^ 1074) w hm0 (by omega) (by omega) ht64 (by omega) hst (two_pow_pos 1074) (mul_cat1 (n := val64 x * val64 y) (a := 1926) (b := 1074) (c := 3000) rfl)
      have hi2 : P / 18446744073709551616 < 8796093022208 := by omega
      have lo2 : P % 18446744073709551616 < 18446744073709551616 := by omega
      generalize P % 18446744073709551616 = lo at *
      generalize P / 18446744073709551616 = hi at *
      generalize P % 2251799813685248 = tr at *
      generalize P / 2251799813685248 = M at *
      generalize rd64 ng (val64 x * val64 y) (2 ^ 1074) = R at *
      generalize um64 x = ux at *
      generalize um64 y = uy at *
      generalize ue64 x = exx at *
      generalize ue64 y = eyy at *
      generalize sgn64 (neg64 x) 0 = sgx at *
      generalize sgn64 (neg64 y) 0 = sgy at *
      generalize sgn64 ng 0 = sg at *
      have e1 : ((ux : Int) == 0) = false := beq_eq_false_iff_ne.mpr (by omega)
      have e2 : ((uy : Int) == 0) = false := beq_eq_false_iff_ne.mpr (by omega)
      have GM := Lib.hid hm
      have G1 := Lib.hid H1
      have G2 := Lib.hid H2
      have G3 := Lib.hid HP
      clear H1 H2 HP hx hy xf yf hm hst vt1 vt2 hP hP2 et1 et2 ht64 hm0 eR nx ix zx ny iy zy gx1 gx2 gy1 gy2
      go_enter Try.func86, Try.ntmps86
      go_wp2_with fail
      refine (G1.out).mono ?_
      rintro e w' ⟨rfl, rfl⟩
      go_wp2_with fail
      refine (G2.out).mono ?_
      rintro e w' ⟨rfl, rfl⟩
      go_wp2_with fail
      refine (GM.out).mono ?_
      rintro e w' ⟨rfl, rfl⟩
      go_wp2_with fail
      refine (G3.out).mono ?_
      rintro e w' ⟨rfl, rfl⟩
      go_wp2_with fail
      go_ret
      exact ⟨rfl, rfl⟩
end Go.Proofs.Ytpjanmahbimhkaa.SF
