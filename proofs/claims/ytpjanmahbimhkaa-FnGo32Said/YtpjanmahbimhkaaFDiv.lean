/-
  The walk through fdiv64.
-/
import Derived.Test.YtpjanmahbimhkaaPackR
import Derived.Test.YtpjanmahbimhkaaDivWalk
namespace Go.Proofs.Ytpjanmahbimhkaa.SF
open Go.ChangeShapes Go.WideShapes Go.ChangeAt Go.RowKit
set_option linter.unusedVariables false

theorem div_aux {vx vy mx my T1 T2 S a b c T : Nat} (hv1 : mx * T1 = vx * S) (hv2 : my * T2 = vy * S) (hc : c * (T * T2) = T1 * (a * b)) (h0 : 0 < T2 * S) : vx * a * (my * b) = mx * c * T * vy := by
  apply Nat.eq_of_mul_eq_mul_right h0
  calc vx * a * (my * b) * (T2 * S) = (vx * S) * (my * T2) * (a * b) := by ac_rfl
    _ = (mx * T1) * (vy * S) * (a * b) := by rw [hv1, hv2]
    _ = mx * (vy * S) * (T1 * (a * b)) := by ac_rfl
    _ = mx * (vy * S) * (c * (T * T2)) := by rw [hc]
    _ = mx * c * T * vy * (T2 * S) := by ac_rfl

theorem div_pst {vx vy mx my t1 t2 : Nat} {ex ey : Int} (a1 : 4503599627370496 ≤ mx) (a2 : mx < 9007199254740992) (b1 : 4503599627370496 ≤ my) (b2 : my < 9007199254740992)
    (c1 : -1074 ≤ ex) (c2 : ex ≤ 1023) (d1 : -1074 ≤ ey) (d2 : ey ≤ 1023) (ht1 : (t1 : Int) = ex + 1074) (ht2 : (t2 : Int) = ey + 1074) (hv1 : mx * 2 ^ t1 = vx * 4503599627370496) (hv2 : my * 2 ^ t2 = vy * 4503599627370496) :
    ∃ t A, PSt64 4503599627370496 3000 A my (mx * 18014398509481984 / my) (mx * 18014398509481984 % my) t (ex - ey - 2) ∧ 64 ≤ t ∧ 0 < mx * 18014398509481984 / my ∧ 0 < vy ∧ vx * 2 ^ 1074 * (my * 2 ^ 3000) = A * vy := by
  have hmy : 0 < my := by omega
  have hvy : 0 < vy := by
    rcases Nat.eq_zero_or_pos vy with h | h
    · rw [h, Nat.zero_mul] at hv2
      have : 0 < my * 2 ^ t2 := Nat.mul_pos hmy (two_pow_pos _)
      omega
    · exact h
  have hdm := Nat.div_add_mod (mx * 18014398509481984) my
  have hml := Nat.mod_lt (mx * 18014398509481984) hmy
  have hq1 : 9007199254740992 ≤ mx * 18014398509481984 / my := by
    rw [Nat.le_div_iff_mul_le hmy]
    omega
  have hq2 : mx * 18014398509481984 / my < 18446744073709551616 := by
    rw [Nat.div_lt_iff_lt_mul hmy]
    omega
  generalize mx * 18014398509481984 / my = q at *
  generalize mx * 18014398509481984 % my = r at *
  obtain ⟨t, ht⟩ : ∃ t : Nat, (t : Int) = ex - ey + 4020 := ⟨(ex - ey + 4020).toNat, by omega⟩
  refine ⟨t, (my * q + r) * 2 ^ t, ⟨?_, by omega, fun _ => by omega, hq2, by omega⟩, by omega, by omega, hvy, ?_⟩
  · have hp := two_pow_pos t
    have e : q * (2 ^ t * my) = my * q * 2 ^ t := by ac_rfl
    have e2 : (my * q + r) * 2 ^ t = my * q * 2 ^ t + r * 2 ^ t := Nat.add_mul _ _ _
    unfold Rep
    rw [e, e2]
    refine ⟨fun h => ?_, fun h => ?_⟩
    · have : r = 0 := by omega
      rw [this]; simp
    · have h1 : 0 < r * 2 ^ t := Nat.mul_pos (by omega) hp
      have h2 : r * 2 ^ t < my * 2 ^ t := Nat.mul_lt_mul_of_pos_right hml hp
      rw [Nat.mul_comm (2 ^ t) my]
      omega
  · rw [hdm]
    refine div_aux (S := 4503599627370496) hv1 hv2 ?_ (Nat.mul_pos (two_pow_pos _) (by omega))
    rw [show (18014398509481984 : Nat) = 2 ^ 54 from rfl]
    exact pow_eq3 (a := 54) (b := t) (c := t2) (d := t1) (e := 1074) (f := 3000) (by omega)

set_option maxRecDepth 100000 in
set_option maxHeartbeats 2000000 in
theorem fdiv64_ret (x y : Nat) (w : World) (hx : x < 18446744073709551616) (hy : y < 18446744073709551616) :
    Calls Try.prog 87 #[.int .u64 (x : Int), .int .u64 (y : Int)] w (RetW (.int .u64 (div64 x y : Int)) w) := by
  have H1 := funpack64_any x w hx
  have H2 := funpack64_any y w hy
  unfold Tup564 at H1 H2
  have exy := xor_sgn64 (neg64 x) (neg64 y)
  rw [sb_sgn64 hx] at H1
  rw [sb_sgn64 hy] at H2
  obtain ⟨ng, hng⟩ : ∃ ng, ng = (neg64 x != neg64 y) := ⟨_, rfl⟩
  rw [← hng] at exy
  have xinf : bits .xor .u64 ((sgn64 ng 0 : Nat) : Int) 9218868437227405312 = ((sgn64 ng 9218868437227405312 : Nat) : Int) := by clear hng exy; cases ng <;> decide
  have xz : bits .xor .u64 ((sgn64 ng 0 : Nat) : Int) 0 = ((sgn64 ng 0 : Nat) : Int) := by clear hng exy xinf; cases ng <;> decide
  rcases kinds64 x with nx | ⟨nx, ix, zx, mx, gx⟩ | ⟨nx, ix, zx, mx, gx, ex0⟩ | ⟨nx, ix, zx, gx1, gx2, mx1, mx2, ex1, ex2, t1, et1, vt1⟩
  · have eR : div64 x y = 9221120237041090560 := by simp [div64, nx]
    rw [eR]
    rw [nx] at H1
    have G1 := Lib.hid H1
    have G2 := Lib.hid H2
    clear H1 H2 hx hy exy xinf xz
    go_enter Try.func87, Try.ntmps87
    go_wp2_with fail
    refine (G1.out).mono ?_
    rintro e w' ⟨rfl, rfl⟩
    go_wp2_with fail
    refine (G2.out).mono ?_
    rintro e w' ⟨rfl, rfl⟩
    go_wp2_with fail
    go_ret
    exact ⟨rfl, rfl⟩
  · rcases kinds64 y with ny | ⟨ny, iy, zy, my, gy⟩ | ⟨ny, iy, zy, my, gy, ey0⟩ | ⟨ny, iy, zy, gy1, gy2, my1, my2, ey1, ey2, t2, et2, vt2⟩
    · have eR : div64 x y = 9221120237041090560 := by simp [div64, ny]
      rw [eR]
      rw [nx, ix, mx] at H1
      rw [ny] at H2
      have G1 := Lib.hid H1
      have G2 := Lib.hid H2
      clear nx ix zx mx gx ny H1 H2 hx hy exy xinf xz eR
      go_enter Try.func87, Try.ntmps87
      go_wp2_with fail
      refine (G1.out).mono ?_
      rintro e w' ⟨rfl, rfl⟩
      go_wp2_with fail
      refine (G2.out).mono ?_
      rintro e w' ⟨rfl, rfl⟩
      go_wp2_with fail
      go_ret
      exact ⟨rfl, rfl⟩
    · have eR : div64 x y = 9221120237041090560 := by simp [div64, nx, ix, zx, ny, iy, zy]
      rw [eR]
      rw [nx, ix, mx] at H1
      rw [ny, iy, my] at H2
      have G1 := Lib.hid H1
      have G2 := Lib.hid H2
      clear nx ix zx mx gx ny iy zy my gy H1 H2 hx hy exy xinf xz eR
      go_enter Try.func87, Try.ntmps87
      go_wp2_with fail
      refine (G1.out).mono ?_
      rintro e w' ⟨rfl, rfl⟩
      go_wp2_with fail
      refine (G2.out).mono ?_
      rintro e w' ⟨rfl, rfl⟩
      go_wp2_with fail
      go_ret
      exact ⟨rfl, rfl⟩
    · have eR : div64 x y = sgn64 ng 9218868437227405312 := by rw [hng]; simp [div64, nx, ix, zx, ny, iy, zy]
      rw [eR]
      rw [nx, ix, mx] at H1
      rw [ny, iy, my] at H2
      generalize sgn64 ng 9218868437227405312 = RI at *
      generalize sgn64 ng 0 = RZ at *
      generalize sgn64 (neg64 x) 0 = sgx at *
      generalize sgn64 (neg64 y) 0 = sgy at *
      have G1 := Lib.hid H1
      have G2 := Lib.hid H2
      clear nx ix zx mx gx ny iy zy my gy ey0 H1 H2 hx hy eR hng
      go_enter Try.func87, Try.ntmps87
      go_wp2_with fail
      refine (G1.out).mono ?_
      rintro e w' ⟨rfl, rfl⟩
      go_wp2_with fail
      refine (G2.out).mono ?_
      rintro e w' ⟨rfl, rfl⟩
      go_wp2_with fail
      go_ret
      exact ⟨rfl, rfl⟩
    · have eR : div64 x y = sgn64 ng 9218868437227405312 := by rw [hng]; simp [div64, nx, ix, zx, ny, iy, zy]
      rw [eR]
      rw [nx, ix, mx] at H1
      rw [ny, iy] at H2
      have e2 : ((um64 y : Int) == 0) = false := beq_eq_false_iff_ne.mpr (by omega)
      generalize sgn64 ng 9218868437227405312 = RI at *
      generalize sgn64 ng 0 = RZ at *
      generalize sgn64 (neg64 x) 0 = sgx at *
      generalize sgn64 (neg64 y) 0 = sgy at *
      have G1 := Lib.hid H1
      have G2 := Lib.hid H2
      clear nx ix zx mx gx ny iy zy gy1 gy2 my1 my2 ey1 ey2 et2 vt2 H1 H2 hx hy eR hng
      go_enter Try.func87, Try.ntmps87
      go_wp2_with fail
      refine (G1.out).mono ?_
      rintro e w' ⟨rfl, rfl⟩
      go_wp2_with fail
      refine (G2.out).mono ?_
      rintro e w' ⟨rfl, rfl⟩
      go_wp2_with fail
      go_ret
      exact ⟨rfl, rfl⟩
  · rcases kinds64 y with ny | ⟨ny, iy, zy, my, gy⟩ | ⟨ny, iy, zy, my, gy, ey0⟩ | ⟨ny, iy, zy, gy1, gy2, my1, my2, ey1, ey2, t2, et2, vt2⟩
    · have eR : div64 x y = 9221120237041090560 := by simp [div64, ny]
      rw [eR]
      rw [nx, ix, mx] at H1
      rw [ny] at H2
      have G1 := Lib.hid H1
      have G2 := Lib.hid H2
      clear nx ix zx mx gx ex0 ny H1 H2 hx hy exy xinf xz eR
      go_enter Try.func87, Try.ntmps87
      go_wp2_with fail
      refine (G1.out).mono ?_
      rintro e w' ⟨rfl, rfl⟩
      go_wp2_with fail
      refine (G2.out).mono ?_
      rintro e w' ⟨rfl, rfl⟩
      go_wp2_with fail
      go_ret
      exact ⟨rfl, rfl⟩
    · have eR : div64 x y = sgn64 ng 0 := by rw [hng]; simp [div64, nx, ix, zx, ny, iy, zy]
      rw [eR]
      rw [nx, ix, mx] at H1
      rw [ny, iy, my] at H2
      clear xinf
      generalize sgn64 ng 0 = RZ at *
      generalize sgn64 (neg64 x) 0 = sgx at *
      generalize sgn64 (neg64 y) 0 = sgy at *
      have G1 := Lib.hid H1
      have G2 := Lib.hid H2
      clear nx ix zx mx gx ex0 ny iy zy my gy H1 H2 hx hy eR hng
      go_enter Try.func87, Try.ntmps87
      go_wp2_with fail
      refine (G1.out).mono ?_
      rintro e w' ⟨rfl, rfl⟩
      go_wp2_with fail
      refine (G2.out).mono ?_
      rintro e w' ⟨rfl, rfl⟩
      go_wp2_with fail
      go_ret
      exact ⟨rfl, rfl⟩
    · have eR : div64 x y = 9221120237041090560 := by simp [div64, nx, ix, zx, ny, iy, zy]
      rw [eR]
      rw [nx, ix, mx] at H1
      rw [ny, iy, my] at H2
      have G1 := Lib.hid H1
      have G2 := Lib.hid H2
      clear nx ix zx mx gx ex0 ny iy zy my gy ey0 H1 H2 hx hy exy xinf xz eR
      go_enter Try.func87, Try.ntmps87
      go_wp2_with fail
      refine (G1.out).mono ?_
      rintro e w' ⟨rfl, rfl⟩
      go_wp2_with fail
      refine (G2.out).mono ?_
      rintro e w' ⟨rfl, rfl⟩
      go_wp2_with fail
      go_ret
      exact ⟨rfl, rfl⟩
    · have eR : div64 x y = sgn64 ng 0 := by
        have e0 : ∀ p, val64 x * p = 0 := fun p => by
          unfold val64
          rw [gx, val_zero, Nat.zero_mul]
        have e1 : 0 < val64 y := by
          rcases Nat.eq_zero_or_pos (val64 y) with h | h
          · have := (val_eq_zero 52).mp h; omega
          · exact h
        rw [hng]
        simp only [div64, nx, ix, zx, ny, iy, zy, e0, Bool.or_false, Bool.and_false, Bool.false_eq_true, if_false]
        exact rd_zero64 _ e1
      rw [eR]
      rw [nx, ix, mx] at H1
      rw [ny, iy] at H2
      have e2 : ((um64 y : Int) == 0) = false := beq_eq_false_iff_ne.mpr (by omega)
      clear xinf
      generalize sgn64 ng 0 = RZ at *
      generalize sgn64 (neg64 x) 0 = sgx at *
      generalize sgn64 (neg64 y) 0 = sgy at *
      have G1 := Lib.hid H1
      have G2 := Lib.hid H2
      clear nx ix zx mx gx ex0 ny iy zy gy1 gy2 my1 my2 ey1 ey2 et2 vt2 H1 H2 hx hy eR hng
      go_enter Try.func87, Try.ntmps87
      go_wp2_with fail
      refine (G1.out).mono ?_
      rintro e w' ⟨rfl, rfl⟩
      go_wp2_with fail
      refine (G2.out).mono ?_
      rintro e w' ⟨rfl, rfl⟩
      go_wp2_with fail
      go_ret
      exact ⟨rfl, rfl⟩
  · rcases kinds64 y with ny | ⟨ny, iy, zy, my, gy⟩ | ⟨ny, iy, zy, my, gy, ey0⟩ | ⟨ny, iy, zy, gy1, gy2, my1, my2, ey1, ey2, t2, et2, vt2⟩
    · have eR : div64 x y = 9221120237041090560 := by simp [div64, ny]
      rw [eR]
      rw [nx, ix] at H1
      rw [ny] at H2
      have G1 := Lib.hid H1
      have G2 := Lib.hid H2
      clear nx ix zx gx1 gx2 mx1 mx2 ex1 ex2 et1 vt1 ny H1 H2 hx hy exy xinf xz eR
      go_enter Try.func87, Try.ntmps87
      go_wp2_with fail
      refine (G1.out).mono ?_
      rintro e w' ⟨rfl, rfl⟩
      go_wp2_with fail
      refine (G2.out).mono ?_
      rintro e w' ⟨rfl, rfl⟩
      go_wp2_with fail
      go_ret
      exact ⟨rfl, rfl⟩
    · have eR : div64 x y = sgn64 ng 0 := by rw [hng]; simp [div64, nx, ix, zx, ny, iy, zy]
      rw [eR]
      rw [nx, ix] at H1
      rw [ny, iy, my] at H2
      have e1 : ((um64 x : Int) == 0) = false := beq_eq_false_iff_ne.mpr (by omega)
      clear xinf
      generalize sgn64 ng 0 = RZ at *
      generalize sgn64 (neg64 x) 0 = sgx at *
      generalize sgn64 (neg64 y) 0 = sgy at *
      have G1 := Lib.hid H1
      have G2 := Lib.hid H2
      clear nx ix zx gx1 gx2 mx1 mx2 ex1 ex2 et1 vt1 ny iy zy my gy H1 H2 hx hy eR hng
      go_enter Try.func87, Try.ntmps87
      go_wp2_with fail
      refine (G1.out).mono ?_
      rintro e w' ⟨rfl, rfl⟩
      go_wp2_with fail
      refine (G2.out).mono ?_
      rintro e w' ⟨rfl, rfl⟩
      go_wp2_with fail
      go_ret
      exact ⟨rfl, rfl⟩
    · have eR : div64 x y = sgn64 ng 9218868437227405312 := by rw [hng]; simp [div64, nx, ix, zx, ny, iy, zy]
      rw [eR]
      rw [nx, ix] at H1
      rw [ny, iy, my] at H2
      have e1 : ((um64 x : Int) == 0) = false := beq_eq_false_iff_ne.mpr (by omega)
      generalize sgn64 ng 9218868437227405312 = RI at *
      generalize sgn64 ng 0 = RZ at *
      generalize sgn64 (neg64 x) 0 = sgx at *
      generalize sgn64 (neg64 y) 0 = sgy at *
      have G1 := Lib.hid H1
      have G2 := Lib.hid H2
      clear nx ix zx gx1 gx2 mx1 mx2 ex1 ex2 et1 vt1 ny iy zy my gy ey0 H1 H2 hx hy eR hng
      go_enter Try.func87, Try.ntmps87
      go_wp2_with fail
      refine (G1.out).mono ?_
      rintro e w' ⟨rfl, rfl⟩
      go_wp2_with fail
      refine (G2.out).mono ?_
      rintro e w' ⟨rfl, rfl⟩
      go_wp2_with fail
      go_ret
      exact ⟨rfl, rfl⟩
    · have eR : div64 x y = rd64 ng (val64 x * 2 ^ 1074) (val64 y) := by rw [hng]; simp only [div64, nx, ix, zx, ny, iy, zy, Bool.or_false, Bool.and_false, Bool.false_eq_true, if_false]
      rw [eR]
      rw [nx, ix] at H1
      rw [ny, iy] at H2
      obtain ⟨t, A, hst, ht64, hm0, hvy, heq⟩ := div_pst mx1 mx2 my1 my2 ex1 ex2 ey1 ey2 et1 et2 vt1 vt2
      have HP := fpackR64 ng _ _ (ue64 x - ue64 y - 2) _ (um64 y) 3000 t (val64 x * 2 ^ 1074) (val64 y) w hm0 (by omega) (by omega) ht64 (by omega) hst hvy heq
      have HD := divlu_any (um64 x / 1024) (um64 x * 18014398509481984 % 18446744073709551616) (um64 y) (um64 x * 18014398509481984) w (Lib.hid (by omega)) (by omega) (Lib.hid (by omega)) (Lib.hid (by omega))
      have f1 : (um64 x : Int) / 1024 = ((um64 x / 1024 : Nat) : Int) := by omega
      have f2 : IntKind.u64.wrap ((um64 x : Int) * 18014398509481984) = ((um64 x * 18014398509481984 % 18446744073709551616 : Nat) : Int) := by rw [IntKind.wrap_u64]; omega
      unfold DivPost at HD
      generalize um64 x * 18014398509481984 / um64 y = q at *
      generalize um64 x * 18014398509481984 % um64 y = r at *
      generalize um64 x * 18014398509481984 % 18446744073709551616 = lo at *
      generalize um64 x / 1024 = hi at *
      generalize rd64 ng (val64 x * 2 ^ 1074) (val64 y) = R at *
      generalize um64 x = ux at *
      generalize um64 y = uy at *
      generalize ue64 x = exx at *
      generalize ue64 y = eyy at *
      generalize sgn64 ng 0 = sg at *
      generalize sgn64 (neg64 x) 0 = sgx at *
      generalize sgn64 (neg64 y) 0 = sgy at *
      have e1 : ((ux : Int) == 0) = false := beq_eq_false_iff_ne.mpr (by omega)
      have e2 : ((uy : Int) == 0) = false := beq_eq_false_iff_ne.mpr (by omega)
      have G3 := Lib.hid HD
      have G4 := Lib.hid HP
      have G1 := Lib.hid H1
      have G2 := Lib.hid H2
      clear H1 H2 HP HD hx hy hst vt1 vt2 et1 et2 ht64 hm0 hvy heq eR hng xinf xz nx ix zx ny iy zy gx1 gx2 gy1 gy2
      go_enter Try.func87, Try.ntmps87
      go_wp2_with fail
      refine (G1.out).mono ?_
      rintro e w' ⟨rfl, rfl⟩
      go_wp2_with fail
      refine (G2.out).mono ?_
      rintro e w' ⟨rfl, rfl⟩
      go_wp2_with fail
      refine (G3.out).mono ?_
      rintro e w' ⟨rfl, rfl⟩
      go_wp2_with fail
      refine (G4.out).mono ?_
      rintro e w' ⟨rfl, rfl⟩
      go_wp2_with fail
      go_ret
      exact ⟨rfl, rfl⟩
end Go.Proofs.Ytpjanmahbimhkaa.SF
