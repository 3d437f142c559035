/-
  The walk through the reference's Div.
-/
import Derived.Test.YtlagofjbgjhenaaSpecR
namespace Go.Proofs.Ytlagofjbgjhenaa.SF
open Go.ChangeShapes Go.WideShapes Go.ChangeAt Go.RowKit
set_option linter.unusedVariables false


def nanDiv64 (x y : Nat) : Bool := isNaN64 x || isNaN64 y || (isInf64 x && isInf64 y) || (isZero64 x && isZero64 y)
set_option maxRecDepth 100000 in
set_option maxHeartbeats 8000000 in
theorem fdivS64_any (x y : Nat) (w : World) (hx : x < 18446744073709551616) (hy : y < 18446744073709551616) : Calls Try.prog 21 #[.agg #[.int .i64 53, .int .i64 52, .int .i64 (-1074), .int .u64 2047, .int .u64 9223372036854775808], .int .u64 (x : Int), .int .u64 (y : Int)] w (RetB (.tuple #[.int .u64 (((if nanDiv64 x y then 0 else div64 x y) : Nat) : Int), .bool (!nanDiv64 x y)]) w) := by
  have SX := fun w => fneg64_any x w hx
  have SY := fun w => fneg64_any y w hy
  have NX := fun w => fnan64_any x w hx
  have NY := fun w => fnan64_any y w hy
  have IX := fun w => finf64_any x w hx
  have IY := fun w => finf64_any y w hy
  have ZX := fun w => fzero64_any x w hx
  have ZY := fun w => fzero64_any y w hy
  have MX := fun w => fsize64_any x w hx
  have MY := fun w => fsize64_any y w hy
  have HS := Lib.hid (FB64.start w)
  have HSa := Lib.hid (FB64.start0 w)
  rcases kinds64 x with nx | ⟨nx, ix, zx, _, gx⟩ | ⟨nx, ix, zx, _, gx, _⟩ | ⟨nx, ix, zx, gx1, gx2, _⟩
  · have e : nanDiv64 x y = true := by simp [nanDiv64, nx]
    rw [e]
    simp only [if_true, Bool.not_true]
    rw [nx] at NX
    generalize neg64 x = sx at *
    generalize neg64 y = sy at *
    have SX := Lib.hid SX
    have SY := Lib.hid SY
    have NX := Lib.hid NX
    clear hx hy NY IX IY ZX ZY MX MY
    clear e nx
    go_enter Try.func21, Try.ntmps21
    go_wp2_with fail
    go_region_held3 (fun w' => FB64 w w') (first | assumption | exact HS.out) (first | (go_at_call 37; (first | with_reducible refine (SX.out _).mono ?_ | with_reducible refine (SY.out _).mono ?_); rintro e w1 ⟨rfl, hb⟩; have hs := FB64.step (w := w) (by assumption) hb; clear hb))
    have HS1 := Lib.hid hs
    go_wp2_with fail
    refine (NX.out _).mono ?_
    rintro e v2 ⟨rfl, hb⟩
    have hs := FB64.step HS1.out hb
    have HS2 := Lib.hid hs
    clear hb
    obtain ⟨c0, c1, c2, c3, c4, c5, c6⟩ := hs
    clear c5 c6
    go_wp2_with fail
    go_ret2
    exact ⟨rfl, FB64.below HS2.out⟩
  · rcases kinds64 y with ny | ⟨ny, iy, zy, _, gy⟩ | ⟨ny, iy, zy, _, gy, _⟩ | ⟨ny, iy, zy, gy1, gy2, _⟩
    · skip
      have e : nanDiv64 x y = true := by simp [nanDiv64, ny]
      rw [e]
      simp only [if_true, Bool.not_true]
      rw [nx] at NX
      rw [ix] at IX
      rw [zx] at ZX
      rw [ny] at NY
      generalize neg64 x = sx at *
      generalize neg64 y = sy at *
      have SX := Lib.hid SX
      have SY := Lib.hid SY
      have NX := Lib.hid NX
      have NY := Lib.hid NY
      clear hx hy IX IY ZX ZY MX MY
      clear e nx ix zx gx ny
      go_enter Try.func21, Try.ntmps21
      go_wp2_with fail
      go_region_held3 (fun w' => FB64 w w') (first | assumption | exact HS.out) (first | (go_at_call 37; (first | with_reducible refine (SX.out _).mono ?_ | with_reducible refine (SY.out _).mono ?_); rintro e w1 ⟨rfl, hb⟩; have hs := FB64.step (w := w) (by assumption) hb; clear hb))
      have HS1 := Lib.hid hs
      go_wp2_with fail
      refine (NX.out _).mono ?_
      rintro e v2 ⟨rfl, hb⟩
      have hs := FB64.step HS1.out hb
      have HS2 := Lib.hid hs
      clear hb
      obtain ⟨c0, c1, c2, c3, c4, c5, c6⟩ := hs
      clear c5 c6
      go_wp2_with fail
      refine (NY.out _).mono ?_
      rintro e v3 ⟨rfl, hb⟩
      have hs := FB64.step HS2.out hb
      have HS3 := Lib.hid hs
      clear hb c0 c1 c2 c3 c4
      obtain ⟨c0, c1, c2, c3, c4, c5, c6⟩ := hs
      clear c5 c6
      go_wp2_with fail
      go_ret2
      exact ⟨rfl, FB64.below HS3.out⟩
    · skip
      have e : nanDiv64 x y = true := by simp [nanDiv64, nx, ix, zx, ny, iy, zy]
      rw [e]
      simp only [if_true, Bool.not_true]
      rw [nx] at NX
      rw [ix] at IX
      rw [zx] at ZX
      rw [ny] at NY
      rw [iy] at IY
      rw [zy] at ZY
      generalize neg64 x = sx at *
      generalize neg64 y = sy at *
      have SX := Lib.hid SX
      have SY := Lib.hid SY
      have NX := Lib.hid NX
      have NY := Lib.hid NY
      have IX := Lib.hid IX
      have IY := Lib.hid IY
      have ZX := Lib.hid ZX
      have ZY := Lib.hid ZY
      clear hx hy MX MY
      clear e nx ix zx gx ny iy zy gy
      go_enter Try.func21, Try.ntmps21
      go_wp2_with fail
      go_region_held3 (fun w' => FB64 w w') (first | assumption | exact HS.out) (first | (go_at_call 37; (first | with_reducible refine (SX.out _).mono ?_ | with_reducible refine (SY.out _).mono ?_); rintro e w1 ⟨rfl, hb⟩; have hs := FB64.step (w := w) (by assumption) hb; clear hb))
      have HS1 := Lib.hid hs
      go_wp2_with fail
      refine (NX.out _).mono ?_
      rintro e v2 ⟨rfl, hb⟩
      have hs := FB64.step HS1.out hb
      have HS2 := Lib.hid hs
      clear hb
      obtain ⟨c0, c1, c2, c3, c4, c5, c6⟩ := hs
      clear c5 c6
      go_wp2_with fail
      refine (NY.out _).mono ?_
      rintro e v3 ⟨rfl, hb⟩
      have hs := FB64.step HS2.out hb
      have HS3 := Lib.hid hs
      clear hb c0 c1 c2 c3 c4
      obtain ⟨c0, c1, c2, c3, c4, c5, c6⟩ := hs
      clear c5 c6
      go_wp2_with fail
      refine (IX.out _).mono ?_
      rintro e v4 ⟨rfl, hb⟩
      have hs := FB64.step HS3.out hb
      have HS4 := Lib.hid hs
      clear hb c0 c1 c2 c3 c4
      obtain ⟨c0, c1, c2, c3, c4, c5, c6⟩ := hs
      clear c5 c6
      go_wp2_with fail
      refine (IY.out _).mono ?_
      rintro e v5 ⟨rfl, hb⟩
      have hs := FB64.step HS4.out hb
      have HS5 := Lib.hid hs
      clear hb c0 c1 c2 c3 c4
      obtain ⟨c0, c1, c2, c3, c4, c5, c6⟩ := hs
      clear c5 c6
      go_wp2_with fail
      go_ret2
      exact ⟨rfl, FB64.below HS5.out⟩
    · skip
      have e : nanDiv64 x y = false := by simp [nanDiv64, nx, ix, zx, ny, iy, zy]
      rw [e]
      simp only [Bool.false_eq_true, if_false, Bool.not_false]
      have hbne : (neg64 x != neg64 y) = !(neg64 x == neg64 y) := rfl
      have er : div64 x y = sgn64 (neg64 x != neg64 y) 9218868437227405312 := div_infk64 nx ny (.inl ⟨ix, iy⟩)
      rw [er]
      have VI := fun w => finfv64_any (neg64 x != neg64 y) w
      rw [nx] at NX
      rw [ix] at IX
      rw [zx] at ZX
      rw [ny] at NY
      rw [iy] at IY
      rw [zy] at ZY
      rw [hbne] at VI ⊢
      generalize neg64 x = sx at *
      generalize neg64 y = sy at *
      have VI := Lib.hid VI
      have SX := Lib.hid SX
      have SY := Lib.hid SY
      have NX := Lib.hid NX
      have NY := Lib.hid NY
      have IX := Lib.hid IX
      have IY := Lib.hid IY
      have ZX := Lib.hid ZX
      have ZY := Lib.hid ZY
      clear hx hy MX MY
      clear e er nx ix zx gx ny iy zy gy hbne
      generalize hR : sgn64 (!(sx == sy)) 9218868437227405312 = R at *
      clear hR
      go_enter Try.func21, Try.ntmps21
      go_wp2_with fail
      go_region_held3 (fun w' => FB64 w w') (first | assumption | exact HS.out) (first | (go_at_call 37; (first | with_reducible refine (SX.out _).mono ?_ | with_reducible refine (SY.out _).mono ?_); rintro e w1 ⟨rfl, hb⟩; have hs := FB64.step (w := w) (by assumption) hb; clear hb))
      have HS1 := Lib.hid hs
      go_wp2_with fail
      refine (NX.out _).mono ?_
      rintro e v2 ⟨rfl, hb⟩
      have hs := FB64.step HS1.out hb
      have HS2 := Lib.hid hs
      clear hb
      obtain ⟨c0, c1, c2, c3, c4, c5, c6⟩ := hs
      clear c5 c6
      go_wp2_with fail
      refine (NY.out _).mono ?_
      rintro e v3 ⟨rfl, hb⟩
      have hs := FB64.step HS2.out hb
      have HS3 := Lib.hid hs
      clear hb c0 c1 c2 c3 c4
      obtain ⟨c0, c1, c2, c3, c4, c5, c6⟩ := hs
      clear c5 c6
      go_wp2_with fail
      refine (IX.out _).mono ?_
      rintro e v4 ⟨rfl, hb⟩
      have hs := FB64.step HS3.out hb
      have HS4 := Lib.hid hs
      clear hb c0 c1 c2 c3 c4
      obtain ⟨c0, c1, c2, c3, c4, c5, c6⟩ := hs
      clear c5 c6
      go_wp2_with fail
      refine (IY.out _).mono ?_
      rintro e v5 ⟨rfl, hb⟩
      have hs := FB64.step HS4.out hb
      have HS5 := Lib.hid hs
      clear hb c0 c1 c2 c3 c4
      obtain ⟨c0, c1, c2, c3, c4, c5, c6⟩ := hs
      clear c5 c6
      go_wp2_with fail
      refine (ZX.out _).mono ?_
      rintro e v6 ⟨rfl, hb⟩
      have hs := FB64.step HS5.out hb
      have HS6 := Lib.hid hs
      clear hb c0 c1 c2 c3 c4
      obtain ⟨c0, c1, c2, c3, c4, c5, c6⟩ := hs
      clear c5 c6
      go_wp2_with fail
      refine (IX.out _).mono ?_
      rintro e v7 ⟨rfl, hb⟩
      have hs := FB64.step HS6.out hb
      have HS7 := Lib.hid hs
      clear hb c0 c1 c2 c3 c4
      obtain ⟨c0, c1, c2, c3, c4, c5, c6⟩ := hs
      clear c5 c6
      go_wp2_with fail
      refine (VI.out _).mono ?_
      rintro e v8 ⟨rfl, hb⟩
      have hs := FB64.step HS7.out hb
      have HS8 := Lib.hid hs
      clear hb c0 c1 c2 c3 c4
      obtain ⟨c0, c1, c2, c3, c4, c5, c6⟩ := hs
      clear c5 c6
      go_wp2_with fail
      go_ret2
      exact ⟨rfl, FB64.below HS8.out⟩
    · skip
      have e : nanDiv64 x y = false := by simp [nanDiv64, nx, ix, zx, ny, iy, zy]
      rw [e]
      simp only [Bool.false_eq_true, if_false, Bool.not_false]
      have hbne : (neg64 x != neg64 y) = !(neg64 x == neg64 y) := rfl
      have er : div64 x y = sgn64 (neg64 x != neg64 y) 9218868437227405312 := div_infk64 nx ny (.inl ⟨ix, iy⟩)
      rw [er]
      have VI := fun w => finfv64_any (neg64 x != neg64 y) w
      rw [nx] at NX
      rw [ix] at IX
      rw [zx] at ZX
      rw [ny] at NY
      rw [iy] at IY
      rw [zy] at ZY
      rw [hbne] at VI ⊢
      generalize neg64 x = sx at *
      generalize neg64 y = sy at *
      have VI := Lib.hid VI
      have SX := Lib.hid SX
      have SY := Lib.hid SY
      have NX := Lib.hid NX
      have NY := Lib.hid NY
      have IX := Lib.hid IX
      have IY := Lib.hid IY
      have ZX := Lib.hid ZX
      have ZY := Lib.hid ZY
      clear hx hy MX MY
      clear e er nx ix zx gx ny iy zy gy1 gy2 hbne
      generalize hR : sgn64 (!(sx == sy)) 9218868437227405312 = R at *
      clear hR
      go_enter Try.func21, Try.ntmps21
      go_wp2_with fail
      go_region_held3 (fun w' => FB64 w w') (first | assumption | exact HS.out) (first | (go_at_call 37; (first | with_reducible refine (SX.out _).mono ?_ | with_reducible refine (SY.out _).mono ?_); rintro e w1 ⟨rfl, hb⟩; have hs := FB64.step (w := w) (by assumption) hb; clear hb))
      have HS1 := Lib.hid hs
      go_wp2_with fail
      refine (NX.out _).mono ?_
      rintro e v2 ⟨rfl, hb⟩
      have hs := FB64.step HS1.out hb
      have HS2 := Lib.hid hs
      clear hb
      obtain ⟨c0, c1, c2, c3, c4, c5, c6⟩ := hs
      clear c5 c6
      go_wp2_with fail
      refine (NY.out _).mono ?_
      rintro e v3 ⟨rfl, hb⟩
      have hs := FB64.step HS2.out hb
      have HS3 := Lib.hid hs
      clear hb c0 c1 c2 c3 c4
      obtain ⟨c0, c1, c2, c3, c4, c5, c6⟩ := hs
      clear c5 c6
      go_wp2_with fail
      refine (IX.out _).mono ?_
      rintro e v4 ⟨rfl, hb⟩
      have hs := FB64.step HS3.out hb
      have HS4 := Lib.hid hs
      clear hb c0 c1 c2 c3 c4
      obtain ⟨c0, c1, c2, c3, c4, c5, c6⟩ := hs
      clear c5 c6
      go_wp2_with fail
      refine (IY.out _).mono ?_
      rintro e v5 ⟨rfl, hb⟩
      have hs := FB64.step HS4.out hb
      have HS5 := Lib.hid hs
      clear hb c0 c1 c2 c3 c4
      obtain ⟨c0, c1, c2, c3, c4, c5, c6⟩ := hs
      clear c5 c6
      go_wp2_with fail
      refine (ZX.out _).mono ?_
      rintro e v6 ⟨rfl, hb⟩
      have hs := FB64.step HS5.out hb
      have HS6 := Lib.hid hs
      clear hb c0 c1 c2 c3 c4
      obtain ⟨c0, c1, c2, c3, c4, c5, c6⟩ := hs
      clear c5 c6
      go_wp2_with fail
      refine (IX.out _).mono ?_
      rintro e v7 ⟨rfl, hb⟩
      have hs := FB64.step HS6.out hb
      have HS7 := Lib.hid hs
      clear hb c0 c1 c2 c3 c4
      obtain ⟨c0, c1, c2, c3, c4, c5, c6⟩ := hs
      clear c5 c6
      go_wp2_with fail
      refine (VI.out _).mono ?_
      rintro e v8 ⟨rfl, hb⟩
      have hs := FB64.step HS7.out hb
      have HS8 := Lib.hid hs
      clear hb c0 c1 c2 c3 c4
      obtain ⟨c0, c1, c2, c3, c4, c5, c6⟩ := hs
      clear c5 c6
      go_wp2_with fail
      go_ret2
      exact ⟨rfl, FB64.below HS8.out⟩
  · rcases kinds64 y with ny | ⟨ny, iy, zy, _, gy⟩ | ⟨ny, iy, zy, _, gy, _⟩ | ⟨ny, iy, zy, gy1, gy2, _⟩
    · skip
      have e : nanDiv64 x y = true := by simp [nanDiv64, ny]
      rw [e]
      simp only [if_true, Bool.not_true]
      rw [nx] at NX
      rw [ix] at IX
      rw [zx] at ZX
      rw [ny] at NY
      generalize neg64 x = sx at *
      generalize neg64 y = sy at *
      have SX := Lib.hid SX
      have SY := Lib.hid SY
      have NX := Lib.hid NX
      have NY := Lib.hid NY
      clear hx hy IX IY ZX ZY MX MY
      clear e nx ix zx gx ny
      go_enter Try.func21, Try.ntmps21
      go_wp2_with fail
      go_region_held3 (fun w' => FB64 w w') (first | assumption | exact HS.out) (first | (go_at_call 37; (first | with_reducible refine (SX.out _).mono ?_ | with_reducible refine (SY.out _).mono ?_); rintro e w1 ⟨rfl, hb⟩; have hs := FB64.step (w := w) (by assumption) hb; clear hb))
      have HS1 := Lib.hid hs
      go_wp2_with fail
      refine (NX.out _).mono ?_
      rintro e v2 ⟨rfl, hb⟩
      have hs := FB64.step HS1.out hb
      have HS2 := Lib.hid hs
      clear hb
      obtain ⟨c0, c1, c2, c3, c4, c5, c6⟩ := hs
      clear c5 c6
      go_wp2_with fail
      refine (NY.out _).mono ?_
      rintro e v3 ⟨rfl, hb⟩
      have hs := FB64.step HS2.out hb
      have HS3 := Lib.hid hs
      clear hb c0 c1 c2 c3 c4
      obtain ⟨c0, c1, c2, c3, c4, c5, c6⟩ := hs
      clear c5 c6
      go_wp2_with fail
      go_ret2
      exact ⟨rfl, FB64.below HS3.out⟩
    · skip
      have e : nanDiv64 x y = false := by simp [nanDiv64, nx, ix, zx, ny, iy, zy]
      rw [e]
      simp only [Bool.false_eq_true, if_false, Bool.not_false]
      have hbne : (neg64 x != neg64 y) = !(neg64 x == neg64 y) := rfl
      have er : div64 x y = sgn64 (neg64 x != neg64 y) 0 := div_zerok64 nx ny ix iy zy
      rw [er]
      have VS := fun w => fsigned64_any (neg64 x != neg64 y) 0 w (by omega)
      rw [nx] at NX
      rw [ix] at IX
      rw [zx] at ZX
      rw [ny] at NY
      rw [iy] at IY
      rw [zy] at ZY
      rw [hbne] at VS ⊢
      generalize neg64 x = sx at *
      generalize neg64 y = sy at *
      have VS := Lib.hid VS
      have SX := Lib.hid SX
      have SY := Lib.hid SY
      have NX := Lib.hid NX
      have NY := Lib.hid NY
      have IX := Lib.hid IX
      have IY := Lib.hid IY
      have ZX := Lib.hid ZX
      have ZY := Lib.hid ZY
      clear hx hy MX MY
      clear e er nx ix zx gx ny iy zy gy hbne
      generalize hR : sgn64 (!(sx == sy)) 0 = R at *
      clear hR
      go_enter Try.func21, Try.ntmps21
      go_wp2_with fail
      go_region_held3 (fun w' => FB64 w w') (first | assumption | exact HS.out) (first | (go_at_call 37; (first | with_reducible refine (SX.out _).mono ?_ | with_reducible refine (SY.out _).mono ?_); rintro e w1 ⟨rfl, hb⟩; have hs := FB64.step (w := w) (by assumption) hb; clear hb))
      have HS1 := Lib.hid hs
      go_wp2_with fail
      refine (NX.out _).mono ?_
      rintro e v2 ⟨rfl, hb⟩
      have hs := FB64.step HS1.out hb
      have HS2 := Lib.hid hs
      clear hb
      obtain ⟨c0, c1, c2, c3, c4, c5, c6⟩ := hs
      clear c5 c6
      go_wp2_with fail
      refine (NY.out _).mono ?_
      rintro e v3 ⟨rfl, hb⟩
      have hs := FB64.step HS2.out hb
      have HS3 := Lib.hid hs
      clear hb c0 c1 c2 c3 c4
      obtain ⟨c0, c1, c2, c3, c4, c5, c6⟩ := hs
      clear c5 c6
      go_wp2_with fail
      refine (IX.out _).mono ?_
      rintro e v4 ⟨rfl, hb⟩
      have hs := FB64.step HS3.out hb
      have HS4 := Lib.hid hs
      clear hb c0 c1 c2 c3 c4
      obtain ⟨c0, c1, c2, c3, c4, c5, c6⟩ := hs
      clear c5 c6
      go_wp2_with fail
      refine (ZX.out _).mono ?_
      rintro e v5 ⟨rfl, hb⟩
      have hs := FB64.step HS4.out hb
      have HS5 := Lib.hid hs
      clear hb c0 c1 c2 c3 c4
      obtain ⟨c0, c1, c2, c3, c4, c5, c6⟩ := hs
      clear c5 c6
      go_wp2_with fail
      refine (ZY.out _).mono ?_
      rintro e v6 ⟨rfl, hb⟩
      have hs := FB64.step HS5.out hb
      have HS6 := Lib.hid hs
      clear hb c0 c1 c2 c3 c4
      obtain ⟨c0, c1, c2, c3, c4, c5, c6⟩ := hs
      clear c5 c6
      go_wp2_with fail
      refine (IX.out _).mono ?_
      rintro e v7 ⟨rfl, hb⟩
      have hs := FB64.step HS6.out hb
      have HS7 := Lib.hid hs
      clear hb c0 c1 c2 c3 c4
      obtain ⟨c0, c1, c2, c3, c4, c5, c6⟩ := hs
      clear c5 c6
      go_wp2_with fail
      refine (ZY.out _).mono ?_
      rintro e v8 ⟨rfl, hb⟩
      have hs := FB64.step HS7.out hb
      have HS8 := Lib.hid hs
      clear hb c0 c1 c2 c3 c4
      obtain ⟨c0, c1, c2, c3, c4, c5, c6⟩ := hs
      clear c5 c6
      go_wp2_with fail
      refine (IY.out _).mono ?_
      rintro e v9 ⟨rfl, hb⟩
      have hs := FB64.step HS8.out hb
      have HS9 := Lib.hid hs
      clear hb c0 c1 c2 c3 c4
      obtain ⟨c0, c1, c2, c3, c4, c5, c6⟩ := hs
      clear c5 c6
      go_wp2_with fail
      refine (VS.out _).mono ?_
      rintro e v10 ⟨rfl, hb⟩
      have hs := FB64.step HS9.out hb
      have HS10 := Lib.hid hs
      clear hb c0 c1 c2 c3 c4
      obtain ⟨c0, c1, c2, c3, c4, c5, c6⟩ := hs
      clear c5 c6
      go_wp2_with fail
      go_ret2
      exact ⟨rfl, FB64.below HS10.out⟩
    · skip
      have e : nanDiv64 x y = true := by simp [nanDiv64, nx, ix, zx, ny, iy, zy]
      rw [e]
      simp only [if_true, Bool.not_true]
      rw [nx] at NX
      rw [ix] at IX
      rw [zx] at ZX
      rw [ny] at NY
      rw [iy] at IY
      rw [zy] at ZY
      generalize neg64 x = sx at *
      generalize neg64 y = sy at *
      have SX := Lib.hid SX
      have SY := Lib.hid SY
      have NX := Lib.hid NX
      have NY := Lib.hid NY
      have IX := Lib.hid IX
      have IY := Lib.hid IY
      have ZX := Lib.hid ZX
      have ZY := Lib.hid ZY
      clear hx hy MX MY
      clear e nx ix zx gx ny iy zy gy
      go_enter Try.func21, Try.ntmps21
      go_wp2_with fail
      go_region_held3 (fun w' => FB64 w w') (first | assumption | exact HS.out) (first | (go_at_call 37; (first | with_reducible refine (SX.out _).mono ?_ | with_reducible refine (SY.out _).mono ?_); rintro e w1 ⟨rfl, hb⟩; have hs := FB64.step (w := w) (by assumption) hb; clear hb))
      have HS1 := Lib.hid hs
      go_wp2_with fail
      refine (NX.out _).mono ?_
      rintro e v2 ⟨rfl, hb⟩
      have hs := FB64.step HS1.out hb
      have HS2 := Lib.hid hs
      clear hb
      obtain ⟨c0, c1, c2, c3, c4, c5, c6⟩ := hs
      clear c5 c6
      go_wp2_with fail
      refine (NY.out _).mono ?_
      rintro e v3 ⟨rfl, hb⟩
      have hs := FB64.step HS2.out hb
      have HS3 := Lib.hid hs
      clear hb c0 c1 c2 c3 c4
      obtain ⟨c0, c1, c2, c3, c4, c5, c6⟩ := hs
      clear c5 c6
      go_wp2_with fail
      refine (IX.out _).mono ?_
      rintro e v4 ⟨rfl, hb⟩
      have hs := FB64.step HS3.out hb
      have HS4 := Lib.hid hs
      clear hb c0 c1 c2 c3 c4
      obtain ⟨c0, c1, c2, c3, c4, c5, c6⟩ := hs
      clear c5 c6
      go_wp2_with fail
      refine (ZX.out _).mono ?_
      rintro e v5 ⟨rfl, hb⟩
      have hs := FB64.step HS4.out hb
      have HS5 := Lib.hid hs
      clear hb c0 c1 c2 c3 c4
      obtain ⟨c0, c1, c2, c3, c4, c5, c6⟩ := hs
      clear c5 c6
      go_wp2_with fail
      refine (ZY.out _).mono ?_
      rintro e v6 ⟨rfl, hb⟩
      have hs := FB64.step HS5.out hb
      have HS6 := Lib.hid hs
      clear hb c0 c1 c2 c3 c4
      obtain ⟨c0, c1, c2, c3, c4, c5, c6⟩ := hs
      clear c5 c6
      go_wp2_with fail
      go_ret2
      exact ⟨rfl, FB64.below HS6.out⟩
    · skip
      have e : nanDiv64 x y = false := by simp [nanDiv64, nx, ix, zx, ny, iy, zy]
      rw [e]
      simp only [Bool.false_eq_true, if_false, Bool.not_false]
      have hbne : (neg64 x != neg64 y) = !(neg64 x == neg64 y) := rfl
      have er : div64 x y = rd64 (neg64 x != neg64 y) (val64 x * 2 ^ 1074) (val64 y) := div_finK64 nx ix ny iy zy
      rw [er]
      obtain ⟨RR, s1, s2, b1, b2, lx, ly⟩ := div_round64 x y gy1
      rw [hbne] at RR ⊢
      generalize rd64 (!(neg64 x == neg64 y)) (val64 x * 2 ^ 1074) (val64 y) = R at *
      generalize sm64 x = mx at *
      generalize sm64 y = my at *
      generalize se64 x = dx at *
      generalize se64 y = dy at *
      have sw : IntKind.i64.wrap (-1074 + (dx : Int) - (-1074 + (dy : Int))) = -1074 + (dx : Int) - (-1074 + (dy : Int)) := IntWalk.i64_in _ (by omega)
      rw [nx] at NX
      rw [ix] at IX
      rw [zx] at ZX
      rw [ny] at NY
      rw [iy] at IY
      rw [zy] at ZY
      generalize neg64 x = sx at *
      generalize neg64 y = sy at *
      have RR := Lib.hid RR
      have LX := Lib.hid lx
      have LY := Lib.hid ly
      have SX := Lib.hid SX
      have SY := Lib.hid SY
      have NX := Lib.hid NX
      have NY := Lib.hid NY
      have IX := Lib.hid IX
      have IY := Lib.hid IY
      have ZX := Lib.hid ZX
      have ZY := Lib.hid ZY
      have MX := Lib.hid MX
      have MY := Lib.hid MY
      clear hx hy
      clear e er nx ix zx gx ny iy zy gy1 gy2 hbne lx ly
      go_enter Try.func21, Try.ntmps21
      go_wp2_with fail
      go_region_held3 (fun w' => FB64 w w') (first | assumption | exact HS.out) (first | (go_at_call 37; (first | with_reducible refine (SX.out _).mono ?_ | with_reducible refine (SY.out _).mono ?_); rintro e w1 ⟨rfl, hb⟩; have hs := FB64.step (w := w) (by assumption) hb; clear hb))
      have HS1 := Lib.hid hs
      go_wp2_with fail
      refine (NX.out _).mono ?_
      rintro e v2 ⟨rfl, hb⟩
      have hs := FB64.step HS1.out hb
      have HS2 := Lib.hid hs
      clear hb
      obtain ⟨c0, c1, c2, c3, c4, c5, c6⟩ := hs
      clear c5 c6
      go_wp2_with fail
      refine (NY.out _).mono ?_
      rintro e v3 ⟨rfl, hb⟩
      have hs := FB64.step HS2.out hb
      have HS3 := Lib.hid hs
      clear hb c0 c1 c2 c3 c4
      obtain ⟨c0, c1, c2, c3, c4, c5, c6⟩ := hs
      clear c5 c6
      go_wp2_with fail
      refine (IX.out _).mono ?_
      rintro e v4 ⟨rfl, hb⟩
      have hs := FB64.step HS3.out hb
      have HS4 := Lib.hid hs
      clear hb c0 c1 c2 c3 c4
      obtain ⟨c0, c1, c2, c3, c4, c5, c6⟩ := hs
      clear c5 c6
      go_wp2_with fail
      refine (ZX.out _).mono ?_
      rintro e v5 ⟨rfl, hb⟩
      have hs := FB64.step HS4.out hb
      have HS5 := Lib.hid hs
      clear hb c0 c1 c2 c3 c4
      obtain ⟨c0, c1, c2, c3, c4, c5, c6⟩ := hs
      clear c5 c6
      go_wp2_with fail
      refine (ZY.out _).mono ?_
      rintro e v6 ⟨rfl, hb⟩
      have hs := FB64.step HS5.out hb
      have HS6 := Lib.hid hs
      clear hb c0 c1 c2 c3 c4
      obtain ⟨c0, c1, c2, c3, c4, c5, c6⟩ := hs
      clear c5 c6
      go_wp2_with fail
      refine (IX.out _).mono ?_
      rintro e v7 ⟨rfl, hb⟩
      have hs := FB64.step HS6.out hb
      have HS7 := Lib.hid hs
      clear hb c0 c1 c2 c3 c4
      obtain ⟨c0, c1, c2, c3, c4, c5, c6⟩ := hs
      clear c5 c6
      go_wp2_with fail
      refine (ZY.out _).mono ?_
      rintro e v8 ⟨rfl, hb⟩
      have hs := FB64.step HS7.out hb
      have HS8 := Lib.hid hs
      clear hb c0 c1 c2 c3 c4
      obtain ⟨c0, c1, c2, c3, c4, c5, c6⟩ := hs
      clear c5 c6
      go_wp2_with fail
      refine (IY.out _).mono ?_
      rintro e v9 ⟨rfl, hb⟩
      have hs := FB64.step HS8.out hb
      have HS9 := Lib.hid hs
      clear hb c0 c1 c2 c3 c4
      obtain ⟨c0, c1, c2, c3, c4, c5, c6⟩ := hs
      clear c5 c6
      go_wp2_with fail
      refine (MX.out _).mono ?_
      rintro e v10 ⟨rfl, hb⟩
      have hs := FB64.step HS9.out hb
      have HS10 := Lib.hid hs
      clear hb c0 c1 c2 c3 c4
      obtain ⟨c0, c1, c2, c3, c4, c5, c6⟩ := hs
      clear c5 c6
      go_wp2_with fail
      refine (MY.out _).mono ?_
      rintro e v11 ⟨rfl, hb⟩
      have hs := FB64.step HS10.out hb
      have HS11 := Lib.hid hs
      clear hb c0 c1 c2 c3 c4
      obtain ⟨c0, c1, c2, c3, c4, c5, c6⟩ := hs
      clear c5 c6
      go_wp2_with fail
      have HD := Lib.hid (FB64.drew HS11.out)
      go_region_held3 (fun w' => FB64 w w') (first | assumption | exact HD.out) (first | (go_at_call 43; (first | ((with_reducible refine (natOf_any _ mx LX.out).mono ?_); rintro e a1 ⟨va, rfl, na, ba⟩; have hs := FB64.step (w := w) (by assumption) ba) | ((with_reducible refine (natOf_any _ my LY.out).mono ?_); rintro e a2 ⟨vb, rfl, nb, bb⟩; have na := na.below bb; have hs := FB64.step (w := w) (by assumption) bb))) | (go_at_call 42; (with_reducible refine (RR.out _ _ _ na nb).mono ?_); rintro e a5 ⟨rfl, be⟩; have hs := FB64.step (w := w) (by assumption) be))
      go_wp2_with fail
      go_ret2
      exact ⟨rfl, FB64.below (by assumption)⟩
  · rcases kinds64 y with ny | ⟨ny, iy, zy, _, gy⟩ | ⟨ny, iy, zy, _, gy, _⟩ | ⟨ny, iy, zy, gy1, gy2, _⟩
    · skip
      have e : nanDiv64 x y = true := by simp [nanDiv64, ny]
      rw [e]
      simp only [if_true, Bool.not_true]
      rw [nx] at NX
      rw [ix] at IX
      rw [zx] at ZX
      rw [ny] at NY
      generalize neg64 x = sx at *
      generalize neg64 y = sy at *
      have SX := Lib.hid SX
      have SY := Lib.hid SY
      have NX := Lib.hid NX
      have NY := Lib.hid NY
      clear hx hy IX IY ZX ZY MX MY
      clear e nx ix zx gx1 gx2 ny
      go_enter Try.func21, Try.ntmps21
      go_wp2_with fail
      go_region_held3 (fun w' => FB64 w w') (first | assumption | exact HS.out) (first | (go_at_call 37; (first | with_reducible refine (SX.out _).mono ?_ | with_reducible refine (SY.out _).mono ?_); rintro e w1 ⟨rfl, hb⟩; have hs := FB64.step (w := w) (by assumption) hb; clear hb))
      have HS1 := Lib.hid hs
      go_wp2_with fail
      refine (NX.out _).mono ?_
      rintro e v2 ⟨rfl, hb⟩
      have hs := FB64.step HS1.out hb
      have HS2 := Lib.hid hs
      clear hb
      obtain ⟨c0, c1, c2, c3, c4, c5, c6⟩ := hs
      clear c5 c6
      go_wp2_with fail
      refine (NY.out _).mono ?_
      rintro e v3 ⟨rfl, hb⟩
      have hs := FB64.step HS2.out hb
      have HS3 := Lib.hid hs
      clear hb c0 c1 c2 c3 c4
      obtain ⟨c0, c1, c2, c3, c4, c5, c6⟩ := hs
      clear c5 c6
      go_wp2_with fail
      go_ret2
      exact ⟨rfl, FB64.below HS3.out⟩
    · skip
      have e : nanDiv64 x y = false := by simp [nanDiv64, nx, ix, zx, ny, iy, zy]
      rw [e]
      simp only [Bool.false_eq_true, if_false, Bool.not_false]
      have hbne : (neg64 x != neg64 y) = !(neg64 x == neg64 y) := rfl
      have er : div64 x y = sgn64 (neg64 x != neg64 y) 0 := div_zerok64 nx ny ix iy zy
      rw [er]
      have VS := fun w => fsigned64_any (neg64 x != neg64 y) 0 w (by omega)
      rw [nx] at NX
      rw [ix] at IX
      rw [zx] at ZX
      rw [ny] at NY
      rw [iy] at IY
      rw [zy] at ZY
      rw [hbne] at VS ⊢
      generalize neg64 x = sx at *
      generalize neg64 y = sy at *
      have VS := Lib.hid VS
      have SX := Lib.hid SX
      have SY := Lib.hid SY
      have NX := Lib.hid NX
      have NY := Lib.hid NY
      have IX := Lib.hid IX
      have IY := Lib.hid IY
      have ZX := Lib.hid ZX
      have ZY := Lib.hid ZY
      clear hx hy MX MY
      clear e er nx ix zx gx1 gx2 ny iy zy gy hbne
      generalize hR : sgn64 (!(sx == sy)) 0 = R at *
      clear hR
      go_enter Try.func21, Try.ntmps21
      go_wp2_with fail
      go_region_held3 (fun w' => FB64 w w') (first | assumption | exact HS.out) (first | (go_at_call 37; (first | with_reducible refine (SX.out _).mono ?_ | with_reducible refine (SY.out _).mono ?_); rintro e w1 ⟨rfl, hb⟩; have hs := FB64.step (w := w) (by assumption) hb; clear hb))
      have HS1 := Lib.hid hs
      go_wp2_with fail
      refine (NX.out _).mono ?_
      rintro e v2 ⟨rfl, hb⟩
      have hs := FB64.step HS1.out hb
      have HS2 := Lib.hid hs
      clear hb
      obtain ⟨c0, c1, c2, c3, c4, c5, c6⟩ := hs
      clear c5 c6
      go_wp2_with fail
      refine (NY.out _).mono ?_
      rintro e v3 ⟨rfl, hb⟩
      have hs := FB64.step HS2.out hb
      have HS3 := Lib.hid hs
      clear hb c0 c1 c2 c3 c4
      obtain ⟨c0, c1, c2, c3, c4, c5, c6⟩ := hs
      clear c5 c6
      go_wp2_with fail
      refine (IX.out _).mono ?_
      rintro e v4 ⟨rfl, hb⟩
      have hs := FB64.step HS3.out hb
      have HS4 := Lib.hid hs
      clear hb c0 c1 c2 c3 c4
      obtain ⟨c0, c1, c2, c3, c4, c5, c6⟩ := hs
      clear c5 c6
      go_wp2_with fail
      refine (ZX.out _).mono ?_
      rintro e v5 ⟨rfl, hb⟩
      have hs := FB64.step HS4.out hb
      have HS5 := Lib.hid hs
      clear hb c0 c1 c2 c3 c4
      obtain ⟨c0, c1, c2, c3, c4, c5, c6⟩ := hs
      clear c5 c6
      go_wp2_with fail
      refine (IX.out _).mono ?_
      rintro e v6 ⟨rfl, hb⟩
      have hs := FB64.step HS5.out hb
      have HS6 := Lib.hid hs
      clear hb c0 c1 c2 c3 c4
      obtain ⟨c0, c1, c2, c3, c4, c5, c6⟩ := hs
      clear c5 c6
      go_wp2_with fail
      refine (ZY.out _).mono ?_
      rintro e v7 ⟨rfl, hb⟩
      have hs := FB64.step HS6.out hb
      have HS7 := Lib.hid hs
      clear hb c0 c1 c2 c3 c4
      obtain ⟨c0, c1, c2, c3, c4, c5, c6⟩ := hs
      clear c5 c6
      go_wp2_with fail
      refine (IY.out _).mono ?_
      rintro e v8 ⟨rfl, hb⟩
      have hs := FB64.step HS7.out hb
      have HS8 := Lib.hid hs
      clear hb c0 c1 c2 c3 c4
      obtain ⟨c0, c1, c2, c3, c4, c5, c6⟩ := hs
      clear c5 c6
      go_wp2_with fail
      refine (VS.out _).mono ?_
      rintro e v9 ⟨rfl, hb⟩
      have hs := FB64.step HS8.out hb
      have HS9 := Lib.hid hs
      clear hb c0 c1 c2 c3 c4
      obtain ⟨c0, c1, c2, c3, c4, c5, c6⟩ := hs
      clear c5 c6
      go_wp2_with fail
      go_ret2
      exact ⟨rfl, FB64.below HS9.out⟩
    · skip
      have e : nanDiv64 x y = false := by simp [nanDiv64, nx, ix, zx, ny, iy, zy]
      rw [e]
      simp only [Bool.false_eq_true, if_false, Bool.not_false]
      have hbne : (neg64 x != neg64 y) = !(neg64 x == neg64 y) := rfl
      have er : div64 x y = sgn64 (neg64 x != neg64 y) 9218868437227405312 := div_infk64 nx ny (.inr ⟨zy, zx⟩)
      rw [er]
      have VI := fun w => finfv64_any (neg64 x != neg64 y) w
      rw [nx] at NX
      rw [ix] at IX
      rw [zx] at ZX
      rw [ny] at NY
      rw [iy] at IY
      rw [zy] at ZY
      rw [hbne] at VI ⊢
      generalize neg64 x = sx at *
      generalize neg64 y = sy at *
      have VI := Lib.hid VI
      have SX := Lib.hid SX
      have SY := Lib.hid SY
      have NX := Lib.hid NX
      have NY := Lib.hid NY
      have IX := Lib.hid IX
      have IY := Lib.hid IY
      have ZX := Lib.hid ZX
      have ZY := Lib.hid ZY
      clear hx hy MX MY
      clear e er nx ix zx gx1 gx2 ny iy zy gy hbne
      generalize hR : sgn64 (!(sx == sy)) 9218868437227405312 = R at *
      clear hR
      go_enter Try.func21, Try.ntmps21
      go_wp2_with fail
      go_region_held3 (fun w' => FB64 w w') (first | assumption | exact HS.out) (first | (go_at_call 37; (first | with_reducible refine (SX.out _).mono ?_ | with_reducible refine (SY.out _).mono ?_); rintro e w1 ⟨rfl, hb⟩; have hs := FB64.step (w := w) (by assumption) hb; clear hb))
      have HS1 := Lib.hid hs
      go_wp2_with fail
      refine (NX.out _).mono ?_
      rintro e v2 ⟨rfl, hb⟩
      have hs := FB64.step HS1.out hb
      have HS2 := Lib.hid hs
      clear hb
      obtain ⟨c0, c1, c2, c3, c4, c5, c6⟩ := hs
      clear c5 c6
      go_wp2_with fail
      refine (NY.out _).mono ?_
      rintro e v3 ⟨rfl, hb⟩
      have hs := FB64.step HS2.out hb
      have HS3 := Lib.hid hs
      clear hb c0 c1 c2 c3 c4
      obtain ⟨c0, c1, c2, c3, c4, c5, c6⟩ := hs
      clear c5 c6
      go_wp2_with fail
      refine (IX.out _).mono ?_
      rintro e v4 ⟨rfl, hb⟩
      have hs := FB64.step HS3.out hb
      have HS4 := Lib.hid hs
      clear hb c0 c1 c2 c3 c4
      obtain ⟨c0, c1, c2, c3, c4, c5, c6⟩ := hs
      clear c5 c6
      go_wp2_with fail
      refine (ZX.out _).mono ?_
      rintro e v5 ⟨rfl, hb⟩
      have hs := FB64.step HS4.out hb
      have HS5 := Lib.hid hs
      clear hb c0 c1 c2 c3 c4
      obtain ⟨c0, c1, c2, c3, c4, c5, c6⟩ := hs
      clear c5 c6
      go_wp2_with fail
      refine (IX.out _).mono ?_
      rintro e v6 ⟨rfl, hb⟩
      have hs := FB64.step HS5.out hb
      have HS6 := Lib.hid hs
      clear hb c0 c1 c2 c3 c4
      obtain ⟨c0, c1, c2, c3, c4, c5, c6⟩ := hs
      clear c5 c6
      go_wp2_with fail
      refine (ZY.out _).mono ?_
      rintro e v7 ⟨rfl, hb⟩
      have hs := FB64.step HS6.out hb
      have HS7 := Lib.hid hs
      clear hb c0 c1 c2 c3 c4
      obtain ⟨c0, c1, c2, c3, c4, c5, c6⟩ := hs
      clear c5 c6
      go_wp2_with fail
      refine (VI.out _).mono ?_
      rintro e v8 ⟨rfl, hb⟩
      have hs := FB64.step HS7.out hb
      have HS8 := Lib.hid hs
      clear hb c0 c1 c2 c3 c4
      obtain ⟨c0, c1, c2, c3, c4, c5, c6⟩ := hs
      clear c5 c6
      go_wp2_with fail
      go_ret2
      exact ⟨rfl, FB64.below HS8.out⟩
    · skip
      have e : nanDiv64 x y = false := by simp [nanDiv64, nx, ix, zx, ny, iy, zy]
      rw [e]
      simp only [Bool.false_eq_true, if_false, Bool.not_false]
      have hbne : (neg64 x != neg64 y) = !(neg64 x == neg64 y) := rfl
      have er : div64 x y = rd64 (neg64 x != neg64 y) (val64 x * 2 ^ 1074) (val64 y) := div_finK64 nx ix ny iy zy
      rw [er]
      obtain ⟨RR, s1, s2, b1, b2, lx, ly⟩ := div_round64 x y gy1
      rw [hbne] at RR ⊢
      generalize rd64 (!(neg64 x == neg64 y)) (val64 x * 2 ^ 1074) (val64 y) = R at *
      generalize sm64 x = mx at *
      generalize sm64 y = my at *
      generalize se64 x = dx at *
      generalize se64 y = dy at *
      have sw : IntKind.i64.wrap (-1074 + (dx : Int) - (-1074 + (dy : Int))) = -1074 + (dx : Int) - (-1074 + (dy : Int)) := IntWalk.i64_in _ (by omega)
      rw [nx] at NX
      rw [ix] at IX
      rw [zx] at ZX
      rw [ny] at NY
      rw [iy] at IY
      rw [zy] at ZY
      generalize neg64 x = sx at *
      generalize neg64 y = sy at *
      have RR := Lib.hid RR
      have LX := Lib.hid lx
      have LY := Lib.hid ly
      have SX := Lib.hid SX
      have SY := Lib.hid SY
      have NX := Lib.hid NX
      have NY := Lib.hid NY
      have IX := Lib.hid IX
      have IY := Lib.hid IY
      have ZX := Lib.hid ZX
      have ZY := Lib.hid ZY
      have MX := Lib.hid MX
      have MY := Lib.hid MY
      clear hx hy
      clear e er nx ix zx gx1 gx2 ny iy zy gy1 gy2 hbne lx ly
      go_enter Try.func21, Try.ntmps21
      go_wp2_with fail
      go_region_held3 (fun w' => FB64 w w') (first | assumption | exact HS.out) (first | (go_at_call 37; (first | with_reducible refine (SX.out _).mono ?_ | with_reducible refine (SY.out _).mono ?_); rintro e w1 ⟨rfl, hb⟩; have hs := FB64.step (w := w) (by assumption) hb; clear hb))
      have HS1 := Lib.hid hs
      go_wp2_with fail
      refine (NX.out _).mono ?_
      rintro e v2 ⟨rfl, hb⟩
      have hs := FB64.step HS1.out hb
      have HS2 := Lib.hid hs
      clear hb
      obtain ⟨c0, c1, c2, c3, c4, c5, c6⟩ := hs
      clear c5 c6
      go_wp2_with fail
      refine (NY.out _).mono ?_
      rintro e v3 ⟨rfl, hb⟩
      have hs := FB64.step HS2.out hb
      have HS3 := Lib.hid hs
      clear hb c0 c1 c2 c3 c4
      obtain ⟨c0, c1, c2, c3, c4, c5, c6⟩ := hs
      clear c5 c6
      go_wp2_with fail
      refine (IX.out _).mono ?_
      rintro e v4 ⟨rfl, hb⟩
      have hs := FB64.step HS3.out hb
      have HS4 := Lib.hid hs
      clear hb c0 c1 c2 c3 c4
      obtain ⟨c0, c1, c2, c3, c4, c5, c6⟩ := hs
      clear c5 c6
      go_wp2_with fail
      refine (ZX.out _).mono ?_
      rintro e v5 ⟨rfl, hb⟩
      have hs := FB64.step HS4.out hb
      have HS5 := Lib.hid hs
      clear hb c0 c1 c2 c3 c4
      obtain ⟨c0, c1, c2, c3, c4, c5, c6⟩ := hs
      clear c5 c6
      go_wp2_with fail
      refine (IX.out _).mono ?_
      rintro e v6 ⟨rfl, hb⟩
      have hs := FB64.step HS5.out hb
      have HS6 := Lib.hid hs
      clear hb c0 c1 c2 c3 c4
      obtain ⟨c0, c1, c2, c3, c4, c5, c6⟩ := hs
      clear c5 c6
      go_wp2_with fail
      refine (ZY.out _).mono ?_
      rintro e v7 ⟨rfl, hb⟩
      have hs := FB64.step HS6.out hb
      have HS7 := Lib.hid hs
      clear hb c0 c1 c2 c3 c4
      obtain ⟨c0, c1, c2, c3, c4, c5, c6⟩ := hs
      clear c5 c6
      go_wp2_with fail
      refine (IY.out _).mono ?_
      rintro e v8 ⟨rfl, hb⟩
      have hs := FB64.step HS7.out hb
      have HS8 := Lib.hid hs
      clear hb c0 c1 c2 c3 c4
      obtain ⟨c0, c1, c2, c3, c4, c5, c6⟩ := hs
      clear c5 c6
      go_wp2_with fail
      refine (MX.out _).mono ?_
      rintro e v9 ⟨rfl, hb⟩
      have hs := FB64.step HS8.out hb
      have HS9 := Lib.hid hs
      clear hb c0 c1 c2 c3 c4
      obtain ⟨c0, c1, c2, c3, c4, c5, c6⟩ := hs
      clear c5 c6
      go_wp2_with fail
      refine (MY.out _).mono ?_
      rintro e v10 ⟨rfl, hb⟩
      have hs := FB64.step HS9.out hb
      have HS10 := Lib.hid hs
      clear hb c0 c1 c2 c3 c4
      obtain ⟨c0, c1, c2, c3, c4, c5, c6⟩ := hs
      clear c5 c6
      go_wp2_with fail
      have HD := Lib.hid (FB64.drew HS10.out)
      go_region_held3 (fun w' => FB64 w w') (first | assumption | exact HD.out) (first | (go_at_call 43; (first | ((with_reducible refine (natOf_any _ mx LX.out).mono ?_); rintro e a1 ⟨va, rfl, na, ba⟩; have hs := FB64.step (w := w) (by assumption) ba) | ((with_reducible refine (natOf_any _ my LY.out).mono ?_); rintro e a2 ⟨vb, rfl, nb, bb⟩; have na := na.below bb; have hs := FB64.step (w := w) (by assumption) bb))) | (go_at_call 42; (with_reducible refine (RR.out _ _ _ na nb).mono ?_); rintro e a5 ⟨rfl, be⟩; have hs := FB64.step (w := w) (by assumption) be))
      go_wp2_with fail
      go_ret2
      exact ⟨rfl, FB64.below (by assumption)⟩

def nanDiv32 (x y : Nat) : Bool := isNaN32 x || isNaN32 y || (isInf32 x && isInf32 y) || (isZero32 x && isZero32 y)
set_option maxRecDepth 100000 in
set_option maxHeartbeats 8000000 in
theorem fdivS32_any (x y : Nat) (w : World) (hx : x < 4294967296) (hy : y < 4294967296) : Calls Try.prog 21 #[.agg #[.int .i64 24, .int .i64 23, .int .i64 (-149), .int .u64 255, .int .u64 2147483648], .int .u64 (x : Int), .int .u64 (y : Int)] w (RetB (.tuple #[.int .u64 (((if nanDiv32 x y then 0 else div32 x y) : Nat) : Int), .bool (!nanDiv32 x y)]) w) := by
  have SX := fun w => fneg32_any x w hx
  have SY := fun w => fneg32_any y w hy
  have NX := fun w => fnan32_any x w hx
  have NY := fun w => fnan32_any y w hy
  have IX := fun w => finf32_any x w hx
  have IY := fun w => finf32_any y w hy
  have ZX := fun w => fzero32_any x w hx
  have ZY := fun w => fzero32_any y w hy
  have MX := fun w => fsize32_any x w hx
  have MY := fun w => fsize32_any y w hy
  have HS := Lib.hid (FB32.start w)
  have HSa := Lib.hid (FB32.start0 w)
  rcases kinds32 x with nx | ⟨nx, ix, zx, _, gx⟩ | ⟨nx, ix, zx, _, gx, _⟩ | ⟨nx, ix, zx, gx1, gx2, _⟩
  · have e : nanDiv32 x y = true := by simp [nanDiv32, nx]
    rw [e]
    simp only [if_true, Bool.not_true]
    rw [nx] at NX
    generalize neg32 x = sx at *
    generalize neg32 y = sy at *
    have SX := Lib.hid SX
    have SY := Lib.hid SY
    have NX := Lib.hid NX
    clear hx hy NY IX IY ZX ZY MX MY
    clear e nx
    go_enter Try.func21, Try.ntmps21
    go_wp2_with fail
    go_region_held3 (fun w' => FB32 w w') (first | assumption | exact HS.out) (first | (go_at_call 37; (first | with_reducible refine (SX.out _).mono ?_ | with_reducible refine (SY.out _).mono ?_); rintro e w1 ⟨rfl, hb⟩; have hs := FB32.step (w := w) (by assumption) hb; clear hb))
    have HS1 := Lib.hid hs
    go_wp2_with fail
    refine (NX.out _).mono ?_
    rintro e v2 ⟨rfl, hb⟩
    have hs := FB32.step HS1.out hb
    have HS2 := Lib.hid hs
    clear hb
    obtain ⟨c0, c1, c2, c3, c4, c5, c6⟩ := hs
    clear c5 c6
    go_wp2_with fail
    go_ret2
    exact ⟨rfl, FB32.below HS2.out⟩
  · rcases kinds32 y with ny | ⟨ny, iy, zy, _, gy⟩ | ⟨ny, iy, zy, _, gy, _⟩ | ⟨ny, iy, zy, gy1, gy2, _⟩
    · skip
      have e : nanDiv32 x y = true := by simp [nanDiv32, ny]
      rw [e]
      simp only [if_true, Bool.not_true]
      rw [nx] at NX
      rw [ix] at IX
      rw [zx] at ZX
      rw [ny] at NY
      generalize neg32 x = sx at *
      generalize neg32 y = sy at *
      have SX := Lib.hid SX
      have SY := Lib.hid SY
      have NX := Lib.hid NX
      have NY := Lib.hid NY
      clear hx hy IX IY ZX ZY MX MY
      clear e nx ix zx gx ny
      go_enter Try.func21, Try.ntmps21
      go_wp2_with fail
      go_region_held3 (fun w' => FB32 w w') (first | assumption | exact HS.out) (first | (go_at_call 37; (first | with_reducible refine (SX.out _).mono ?_ | with_reducible refine (SY.out _).mono ?_); rintro e w1 ⟨rfl, hb⟩; have hs := FB32.step (w := w) (by assumption) hb; clear hb))
      have HS1 := Lib.hid hs
      go_wp2_with fail
      refine (NX.out _).mono ?_
      rintro e v2 ⟨rfl, hb⟩
      have hs := FB32.step HS1.out hb
      have HS2 := Lib.hid hs
      clear hb
      obtain ⟨c0, c1, c2, c3, c4, c5, c6⟩ := hs
      clear c5 c6
      go_wp2_with fail
      refine (NY.out _).mono ?_
      rintro e v3 ⟨rfl, hb⟩
      have hs := FB32.step HS2.out hb
      have HS3 := Lib.hid hs
      clear hb c0 c1 c2 c3 c4
      obtain ⟨c0, c1, c2, c3, c4, c5, c6⟩ := hs
      clear c5 c6
      go_wp2_with fail
      go_ret2
      exact ⟨rfl, FB32.below HS3.out⟩
    · skip
      have e : nanDiv32 x y = true := by simp [nanDiv32, nx, ix, zx, ny, iy, zy]
      rw [e]
      simp only [if_true, Bool.not_true]
      rw [nx] at NX
      rw [ix] at IX
      rw [zx] at ZX
      rw [ny] at NY
      rw [iy] at IY
      rw [zy] at ZY
      generalize neg32 x = sx at *
      generalize neg32 y = sy at *
      have SX := Lib.hid SX
      have SY := Lib.hid SY
      have NX := Lib.hid NX
      have NY := Lib.hid NY
      have IX := Lib.hid IX
      have IY := Lib.hid IY
      have ZX := Lib.hid ZX
      have ZY := Lib.hid ZY
      clear hx hy MX MY
      clear e nx ix zx gx ny iy zy gy
      go_enter Try.func21, Try.ntmps21
      go_wp2_with fail
      go_region_held3 (fun w' => FB32 w w') (first | assumption | exact HS.out) (first | (go_at_call 37; (first | with_reducible refine (SX.out _).mono ?_ | with_reducible refine (SY.out _).mono ?_); rintro e w1 ⟨rfl, hb⟩; have hs := FB32.step (w := w) (by assumption) hb; clear hb))
      have HS1 := Lib.hid hs
      go_wp2_with fail
      refine (NX.out _).mono ?_
      rintro e v2 ⟨rfl, hb⟩
      have hs := FB32.step HS1.out hb
      have HS2 := Lib.hid hs
      clear hb
      obtain ⟨c0, c1, c2, c3, c4, c5, c6⟩ := hs
      clear c5 c6
      go_wp2_with fail
      refine (NY.out _).mono ?_
      rintro e v3 ⟨rfl, hb⟩
      have hs := FB32.step HS2.out hb
      have HS3 := Lib.hid hs
      clear hb c0 c1 c2 c3 c4
      obtain ⟨c0, c1, c2, c3, c4, c5, c6⟩ := hs
      clear c5 c6
      go_wp2_with fail
      refine (IX.out _).mono ?_
      rintro e v4 ⟨rfl, hb⟩
      have hs := FB32.step HS3.out hb
      have HS4 := Lib.hid hs
      clear hb c0 c1 c2 c3 c4
      obtain ⟨c0, c1, c2, c3, c4, c5, c6⟩ := hs
      clear c5 c6
      go_wp2_with fail
      refine (IY.out _).mono ?_
      rintro e v5 ⟨rfl, hb⟩
      have hs := FB32.step HS4.out hb
      have HS5 := Lib.hid hs
      clear hb c0 c1 c2 c3 c4
      obtain ⟨c0, c1, c2, c3, c4, c5, c6⟩ := hs
      clear c5 c6
      go_wp2_with fail
      go_ret2
      exact ⟨rfl, FB32.below HS5.out⟩
    · skip
      have e : nanDiv32 x y = false := by simp [nanDiv32, nx, ix, zx, ny, iy, zy]
      rw [e]
      simp only [Bool.false_eq_true, if_false, Bool.not_false]
      have hbne : (neg32 x != neg32 y) = !(neg32 x == neg32 y) := rfl
      have er : div32 x y = sgn32 (neg32 x != neg32 y) 2139095040 := div_infk32 nx ny (.inl ⟨ix, iy⟩)
      rw [er]
      have VI := fun w => finfv32_any (neg32 x != neg32 y) w
      rw [nx] at NX
      rw [ix] at IX
      rw [zx] at ZX
      rw [ny] at NY
      rw [iy] at IY
      rw [zy] at ZY
      rw [hbne] at VI ⊢
      generalize neg32 x = sx at *
      generalize neg32 y = sy at *
      have VI := Lib.hid VI
      have SX := Lib.hid SX
      have SY := Lib.hid SY
      have NX := Lib.hid NX
      have NY := Lib.hid NY
      have IX := Lib.hid IX
      have IY := Lib.hid IY
      have ZX := Lib.hid ZX
      have ZY := Lib.hid ZY
      clear hx hy MX MY
      clear e er nx ix zx gx ny iy zy gy hbne
      generalize hR : sgn32 (!(sx == sy)) 2139095040 = R at *
      clear hR
      go_enter Try.func21, Try.ntmps21
      go_wp2_with fail
      go_region_held3 (fun w' => FB32 w w') (first | assumption | exact HS.out) (first | (go_at_call 37; (first | with_reducible refine (SX.out _).mono ?_ | with_reducible refine (SY.out _).mono ?_); rintro e w1 ⟨rfl, hb⟩; have hs := FB32.step (w := w) (by assumption) hb; clear hb))
      have HS1 := Lib.hid hs
      go_wp2_with fail
      refine (NX.out _).mono ?_
      rintro e v2 ⟨rfl, hb⟩
      have hs := FB32.step HS1.out hb
      have HS2 := Lib.hid hs
      clear hb
      obtain ⟨c0, c1, c2, c3, c4, c5, c6⟩ := hs
      clear c5 c6
      go_wp2_with fail
      refine (NY.out _).mono ?_
      rintro e v3 ⟨rfl, hb⟩
      have hs := FB32.step HS2.out hb
      have HS3 := Lib.hid hs
      clear hb c0 c1 c2 c3 c4
      obtain ⟨c0, c1, c2, c3, c4, c5, c6⟩ := hs
      clear c5 c6
      go_wp2_with fail
      refine (IX.out _).mono ?_
      rintro e v4 ⟨rfl, hb⟩
      have hs := FB32.step HS3.out hb
      have HS4 := Lib.hid hs
      clear hb c0 c1 c2 c3 c4
      obtain ⟨c0, c1, c2, c3, c4, c5, c6⟩ := hs
      clear c5 c6
      go_wp2_with fail
      refine (IY.out _).mono ?_
      rintro e v5 ⟨rfl, hb⟩
      have hs := FB32.step HS4.out hb
      have HS5 := Lib.hid hs
      clear hb c0 c1 c2 c3 c4
      obtain ⟨c0, c1, c2, c3, c4, c5, c6⟩ := hs
      clear c5 c6
      go_wp2_with fail
      refine (ZX.out _).mono ?_
      rintro e v6 ⟨rfl, hb⟩
      have hs := FB32.step HS5.out hb
      have HS6 := Lib.hid hs
      clear hb c0 c1 c2 c3 c4
      obtain ⟨c0, c1, c2, c3, c4, c5, c6⟩ := hs
      clear c5 c6
      go_wp2_with fail
      refine (IX.out _).mono ?_
      rintro e v7 ⟨rfl, hb⟩
      have hs := FB32.step HS6.out hb
      have HS7 := Lib.hid hs
      clear hb c0 c1 c2 c3 c4
      obtain ⟨c0, c1, c2, c3, c4, c5, c6⟩ := hs
      clear c5 c6
      go_wp2_with fail
      refine (VI.out _).mono ?_
      rintro e v8 ⟨rfl, hb⟩
      have hs := FB32.step HS7.out hb
      have HS8 := Lib.hid hs
      clear hb c0 c1 c2 c3 c4
      obtain ⟨c0, c1, c2, c3, c4, c5, c6⟩ := hs
      clear c5 c6
      go_wp2_with fail
      go_ret2
      exact ⟨rfl, FB32.below HS8.out⟩
    · skip
      have e : nanDiv32 x y = false := by simp [nanDiv32, nx, ix, zx, ny, iy, zy]
      rw [e]
      simp only [Bool.false_eq_true, if_false, Bool.not_false]
      have hbne : (neg32 x != neg32 y) = !(neg32 x == neg32 y) := rfl
      have er : div32 x y = sgn32 (neg32 x != neg32 y) 2139095040 := div_infk32 nx ny (.inl ⟨ix, iy⟩)
      rw [er]
      have VI := fun w => finfv32_any (neg32 x != neg32 y) w
      rw [nx] at NX
      rw [ix] at IX
      rw [zx] at ZX
      rw [ny] at NY
      rw [iy] at IY
      rw [zy] at ZY
      rw [hbne] at VI ⊢
      generalize neg32 x = sx at *
      generalize neg32 y = sy at *
      have VI := Lib.hid VI
      have SX := Lib.hid SX
      have SY := Lib.hid SY
      have NX := Lib.hid NX
      have NY := Lib.hid NY
      have IX := Lib.hid IX
      have IY := Lib.hid IY
      have ZX := Lib.hid ZX
      have ZY := Lib.hid ZY
      clear hx hy MX MY
      clear e er nx ix zx gx ny iy zy gy1 gy2 hbne
      generalize hR : sgn32 (!(sx == sy)) 2139095040 = R at *
      clear hR
      go_enter Try.func21, Try.ntmps21
      go_wp2_with fail
      go_region_held3 (fun w' => FB32 w w') (first | assumption | exact HS.out) (first | (go_at_call 37; (first | with_reducible refine (SX.out _).mono ?_ | with_reducible refine (SY.out _).mono ?_); rintro e w1 ⟨rfl, hb⟩; have hs := FB32.step (w := w) (by assumption) hb; clear hb))
      have HS1 := Lib.hid hs
      go_wp2_with fail
      refine (NX.out _).mono ?_
      rintro e v2 ⟨rfl, hb⟩
      have hs := FB32.step HS1.out hb
      have HS2 := Lib.hid hs
      clear hb
      obtain ⟨c0, c1, c2, c3, c4, c5, c6⟩ := hs
      clear c5 c6
      go_wp2_with fail
      refine (NY.out _).mono ?_
      rintro e v3 ⟨rfl, hb⟩
      have hs := FB32.step HS2.out hb
      have HS3 := Lib.hid hs
      clear hb c0 c1 c2 c3 c4
      obtain ⟨c0, c1, c2, c3, c4, c5, c6⟩ := hs
      clear c5 c6
      go_wp2_with fail
      refine (IX.out _).mono ?_
      rintro e v4 ⟨rfl, hb⟩
      have hs := FB32.step HS3.out hb
      have HS4 := Lib.hid hs
      clear hb c0 c1 c2 c3 c4
      obtain ⟨c0, c1, c2, c3, c4, c5, c6⟩ := hs
      clear c5 c6
      go_wp2_with fail
      refine (IY.out _).mono ?_
      rintro e v5 ⟨rfl, hb⟩
      have hs := FB32.step HS4.out hb
      have HS5 := Lib.hid hs
      clear hb c0 c1 c2 c3 c4
      obtain ⟨c0, c1, c2, c3, c4, c5, c6⟩ := hs
      clear c5 c6
      go_wp2_with fail
      refine (ZX.out _).mono ?_
      rintro e v6 ⟨rfl, hb⟩
      have hs := FB32.step HS5.out hb
      have HS6 := Lib.hid hs
      clear hb c0 c1 c2 c3 c4
      obtain ⟨c0, c1, c2, c3, c4, c5, c6⟩ := hs
      clear c5 c6
      go_wp2_with fail
      refine (IX.out _).mono ?_
      rintro e v7 ⟨rfl, hb⟩
      have hs := FB32.step HS6.out hb
      have HS7 := Lib.hid hs
      clear hb c0 c1 c2 c3 c4
      obtain ⟨c0, c1, c2, c3, c4, c5, c6⟩ := hs
      clear c5 c6
      go_wp2_with fail
      refine (VI.out _).mono ?_
      rintro e v8 ⟨rfl, hb⟩
      have hs := FB32.step HS7.out hb
      have HS8 := Lib.hid hs
      clear hb c0 c1 c2 c3 c4
      obtain ⟨c0, c1, c2, c3, c4, c5, c6⟩ := hs
      clear c5 c6
      go_wp2_with fail
      go_ret2
      exact ⟨rfl, FB32.below HS8.out⟩
  · rcases kinds32 y with ny | ⟨ny, iy, zy, _, gy⟩ | ⟨ny, iy, zy, _, gy, _⟩ | ⟨ny, iy, zy, gy1, gy2, _⟩
    · skip
      have e : nanDiv32 x y = true := by simp [nanDiv32, ny]
      rw [e]
      simp only [if_true, Bool.not_true]
      rw [nx] at NX
      rw [ix] at IX
      rw [zx] at ZX
      rw [ny] at NY
      generalize neg32 x = sx at *
      generalize neg32 y = sy at *
      have SX := Lib.hid SX
      have SY := Lib.hid SY
      have NX := Lib.hid NX
      have NY := Lib.hid NY
      clear hx hy IX IY ZX ZY MX MY
      clear e nx ix zx gx ny
      go_enter Try.func21, Try.ntmps21
      go_wp2_with fail
      go_region_held3 (fun w' => FB32 w w') (first | assumption | exact HS.out) (first | (go_at_call 37; (first | with_reducible refine (SX.out _).mono ?_ | with_reducible refine (SY.out _).mono ?_); rintro e w1 ⟨rfl, hb⟩; have hs := FB32.step (w := w) (by assumption) hb; clear hb))
      have HS1 := Lib.hid hs
      go_wp2_with fail
      refine (NX.out _).mono ?_
      rintro e v2 ⟨rfl, hb⟩
      have hs := FB32.step HS1.out hb
      have HS2 := Lib.hid hs
      clear hb
      obtain ⟨c0, c1, c2, c3, c4, c5, c6⟩ := hs
      clear c5 c6
      go_wp2_with fail
      refine (NY.out _).mono ?_
      rintro e v3 ⟨rfl, hb⟩
      have hs := FB32.step HS2.out hb
      have HS3 := Lib.hid hs
      clear hb c0 c1 c2 c3 c4
      obtain ⟨c0, c1, c2, c3, c4, c5, c6⟩ := hs
      clear c5 c6
      go_wp2_with fail
      go_ret2
      exact ⟨rfl, FB32.below HS3.out⟩
    · skip
      have e : nanDiv32 x y = false := by simp [nanDiv32, nx, ix, zx, ny, iy, zy]
      rw [e]
      simp only [Bool.false_eq_true, if_false, Bool.not_false]
      have hbne : (neg32 x != neg32 y) = !(neg32 x == neg32 y) := rfl
      have er : div32 x y = sgn32 (neg32 x != neg32 y) 0 := div_zerok32 nx ny ix iy zy
      rw [er]
      have VS := fun w => fsigned32_any (neg32 x != neg32 y) 0 w (by omega)
      rw [nx] at NX
      rw [ix] at IX
      rw [zx] at ZX
      rw [ny] at NY
      rw [iy] at IY
      rw [zy] at ZY
      rw [hbne] at VS ⊢
      generalize neg32 x = sx at *
      generalize neg32 y = sy at *
      have VS := Lib.hid VS
      have SX := Lib.hid SX
      have SY := Lib.hid SY
      have NX := Lib.hid NX
      have NY := Lib.hid NY
      have IX := Lib.hid IX
      have IY := Lib.hid IY
      have ZX := Lib.hid ZX
      have ZY := Lib.hid ZY
      clear hx hy MX MY
      clear e er nx ix zx gx ny iy zy gy hbne
      generalize hR : sgn32 (!(sx == sy)) 0 = R at *
      clear hR
      go_enter Try.func21, Try.ntmps21
      go_wp2_with fail
      go_region_held3 (fun w' => FB32 w w') (first | assumption | exact HS.out) (first | (go_at_call 37; (first | with_reducible refine (SX.out _).mono ?_ | with_reducible refine (SY.out _).mono ?_); rintro e w1 ⟨rfl, hb⟩; have hs := FB32.step (w := w) (by assumption) hb; clear hb))
      have HS1 := Lib.hid hs
      go_wp2_with fail
      refine (NX.out _).mono ?_
      rintro e v2 ⟨rfl, hb⟩
      have hs := FB32.step HS1.out hb
      have HS2 := Lib.hid hs
      clear hb
      obtain ⟨c0, c1, c2, c3, c4, c5, c6⟩ := hs
      clear c5 c6
      go_wp2_with fail
      refine (NY.out _).mono ?_
      rintro e v3 ⟨rfl, hb⟩
      have hs := FB32.step HS2.out hb
      have HS3 := Lib.hid hs
      clear hb c0 c1 c2 c3 c4
      obtain ⟨c0, c1, c2, c3, c4, c5, c6⟩ := hs
      clear c5 c6
      go_wp2_with fail
      refine (IX.out _).mono ?_
      rintro e v4 ⟨rfl, hb⟩
      have hs := FB32.step HS3.out hb
      have HS4 := Lib.hid hs
      clear hb c0 c1 c2 c3 c4
      obtain ⟨c0, c1, c2, c3, c4, c5, c6⟩ := hs
      clear c5 c6
      go_wp2_with fail
      refine (ZX.out _).mono ?_
      rintro e v5 ⟨rfl, hb⟩
      have hs := FB32.step HS4.out hb
      have HS5 := Lib.hid hs
      clear hb c0 c1 c2 c3 c4
      obtain ⟨c0, c1, c2, c3, c4, c5, c6⟩ := hs
      clear c5 c6
      go_wp2_with fail
      refine (ZY.out _).mono ?_
      rintro e v6 ⟨rfl, hb⟩
      have hs := FB32.step HS5.out hb
      have HS6 := Lib.hid hs
      clear hb c0 c1 c2 c3 c4
      obtain ⟨c0, c1, c2, c3, c4, c5, c6⟩ := hs
      clear c5 c6
      go_wp2_with fail
      refine (IX.out _).mono ?_
      rintro e v7 ⟨rfl, hb⟩
      have hs := FB32.step HS6.out hb
      have HS7 := Lib.hid hs
      clear hb c0 c1 c2 c3 c4
      obtain ⟨c0, c1, c2, c3, c4, c5, c6⟩ := hs
      clear c5 c6
      go_wp2_with fail
      refine (ZY.out _).mono ?_
      rintro e v8 ⟨rfl, hb⟩
      have hs := FB32.step HS7.out hb
      have HS8 := Lib.hid hs
      clear hb c0 c1 c2 c3 c4
      obtain ⟨c0, c1, c2, c3, c4, c5, c6⟩ := hs
      clear c5 c6
      go_wp2_with fail
      refine (IY.out _).mono ?_
      rintro e v9 ⟨rfl, hb⟩
      have hs := FB32.step HS8.out hb
      have HS9 := Lib.hid hs
      clear hb c0 c1 c2 c3 c4
      obtain ⟨c0, c1, c2, c3, c4, c5, c6⟩ := hs
      clear c5 c6
      go_wp2_with fail
      refine (VS.out _).mono ?_
      rintro e v10 ⟨rfl, hb⟩
      have hs := FB32.step HS9.out hb
      have HS10 := Lib.hid hs
      clear hb c0 c1 c2 c3 c4
      obtain ⟨c0, c1, c2, c3, c4, c5, c6⟩ := hs
      clear c5 c6
      go_wp2_with fail
      go_ret2
      exact ⟨rfl, FB32.below HS10.out⟩
    · skip
      have e : nanDiv32 x y = true := by simp [nanDiv32, nx, ix, zx, ny, iy, zy]
      rw [e]
      simp only [if_true, Bool.not_true]
      rw [nx] at NX
      rw [ix] at IX
      rw [zx] at ZX
      rw [ny] at NY
      rw [iy] at IY
      rw [zy] at ZY
      generalize neg32 x = sx at *
      generalize neg32 y = sy at *
      have SX := Lib.hid SX
      have SY := Lib.hid SY
      have NX := Lib.hid NX
      have NY := Lib.hid NY
      have IX := Lib.hid IX
      have IY := Lib.hid IY
      have ZX := Lib.hid ZX
      have ZY := Lib.hid ZY
      clear hx hy MX MY
      clear e nx ix zx gx ny iy zy gy
      go_enter Try.func21, Try.ntmps21
      go_wp2_with fail
      go_region_held3 (fun w' => FB32 w w') (first | assumption | exact HS.out) (first | (go_at_call 37; (first | with_reducible refine (SX.out _).mono ?_ | with_reducible refine (SY.out _).mono ?_); rintro e w1 ⟨rfl, hb⟩; have hs := FB32.step (w := w) (by assumption) hb; clear hb))
      have HS1 := Lib.hid hs
      go_wp2_with fail
      refine (NX.out _).mono ?_
      rintro e v2 ⟨rfl, hb⟩
      have hs := FB32.step HS1.out hb
      have HS2 := Lib.hid hs
      clear hb
      obtain ⟨c0, c1, c2, c3, c4, c5, c6⟩ := hs
      clear c5 c6
      go_wp2_with fail
      refine (NY.out _).mono ?_
      rintro e v3 ⟨rfl, hb⟩
      have hs := FB32.step HS2.out hb
      have HS3 := Lib.hid hs
      clear hb c0 c1 c2 c3 c4
      obtain ⟨c0, c1, c2, c3, c4, c5, c6⟩ := hs
      clear c5 c6
      go_wp2_with fail
      refine (IX.out _).mono ?_
      rintro e v4 ⟨rfl, hb⟩
      have hs := FB32.step HS3.out hb
      have HS4 := Lib.hid hs
      clear hb c0 c1 c2 c3 c4
      obtain ⟨c0, c1, c2, c3, c4, c5, c6⟩ := hs
      clear c5 c6
      go_wp2_with fail
      refine (ZX.out _).mono ?_
      rintro e v5 ⟨rfl, hb⟩
      have hs := FB32.step HS4.out hb
      have HS5 := Lib.hid hs
      clear hb c0 c1 c2 c3 c4
      obtain ⟨c0, c1, c2, c3, c4, c5, c6⟩ := hs
      clear c5 c6
      go_wp2_with fail
      refine (ZY.out _).mono ?_
      rintro e v6 ⟨rfl, hb⟩
      have hs := FB32.step HS5.out hb
      have HS6 := Lib.hid hs
      clear hb c0 c1 c2 c3 c4
      obtain ⟨c0, c1, c2, c3, c4, c5, c6⟩ := hs
      clear c5 c6
      go_wp2_with fail
      go_ret2
      exact ⟨rfl, FB32.below HS6.out⟩
    · skip
      have e : nanDiv32 x y = false := by simp [nanDiv32, nx, ix, zx, ny, iy, zy]
      rw [e]
      simp only [Bool.false_eq_true, if_false, Bool.not_false]
      have hbne : (neg32 x != neg32 y) = !(neg32 x == neg32 y) := rfl
      have er : div32 x y = rd32 (neg32 x != neg32 y) (val32 x * 2 ^ 149) (val32 y) := div_finK32 nx ix ny iy zy
      rw [er]
      obtain ⟨RR, s1, s2, b1, b2, lx, ly⟩ := div_round32 x y gy1
      rw [hbne] at RR ⊢
      generalize rd32 (!(neg32 x == neg32 y)) (val32 x * 2 ^ 149) (val32 y) = R at *
      generalize sm32 x = mx at *
      generalize sm32 y = my at *
      generalize se32 x = dx at *
      generalize se32 y = dy at *
      have sw : IntKind.i64.wrap (-149 + (dx : Int) - (-149 + (dy : Int))) = -149 + (dx : Int) - (-149 + (dy : Int)) := IntWalk.i64_in _ (by omega)
      rw [nx] at NX
      rw [ix] at IX
      rw [zx] at ZX
      rw [ny] at NY
      rw [iy] at IY
      rw [zy] at ZY
      generalize neg32 x = sx at *
      generalize neg32 y = sy at *
      have RR := Lib.hid RR
      have LX := Lib.hid lx
      have LY := Lib.hid ly
      have SX := Lib.hid SX
      have SY := Lib.hid SY
      have NX := Lib.hid NX
      have NY := Lib.hid NY
      have IX := Lib.hid IX
      have IY := Lib.hid IY
      have ZX := Lib.hid ZX
      have ZY := Lib.hid ZY
      have MX := Lib.hid MX
      have MY := Lib.hid MY
      clear hx hy
      clear e er nx ix zx gx ny iy zy gy1 gy2 hbne lx ly
      go_enter Try.func21, Try.ntmps21
      go_wp2_with fail
      go_region_held3 (fun w' => FB32 w w') (first | assumption | exact HS.out) (first | (go_at_call 37; (first | with_reducible refine (SX.out _).mono ?_ | with_reducible refine (SY.out _).mono ?_); rintro e w1 ⟨rfl, hb⟩; have hs := FB32.step (w := w) (by assumption) hb; clear hb))
      have HS1 := Lib.hid hs
      go_wp2_with fail
      refine (NX.out _).mono ?_
      rintro e v2 ⟨rfl, hb⟩
      have hs := FB32.step HS1.out hb
      have HS2 := Lib.hid hs
      clear hb
      obtain ⟨c0, c1, c2, c3, c4, c5, c6⟩ := hs
      clear c5 c6
      go_wp2_with fail
      refine (NY.out _).mono ?_
      rintro e v3 ⟨rfl, hb⟩
      have hs := FB32.step HS2.out hb
      have HS3 := Lib.hid hs
      clear hb c0 c1 c2 c3 c4
      obtain ⟨c0, c1, c2, c3, c4, c5, c6⟩ := hs
      clear c5 c6
      go_wp2_with fail
      refine (IX.out _).mono ?_
      rintro e v4 ⟨rfl, hb⟩
      have hs := FB32.step HS3.out hb
      have HS4 := Lib.hid hs
      clear hb c0 c1 c2 c3 c4
      obtain ⟨c0, c1, c2, c3, c4, c5, c6⟩ := hs
      clear c5 c6
      go_wp2_with fail
      refine (ZX.out _).mono ?_
      rintro e v5 ⟨rfl, hb⟩
      have hs := FB32.step HS4.out hb
      have HS5 := Lib.hid hs
      clear hb c0 c1 c2 c3 c4
      obtain ⟨c0, c1, c2, c3, c4, c5, c6⟩ := hs
      clear c5 c6
      go_wp2_with fail
      refine (ZY.out _).mono ?_
      rintro e v6 ⟨rfl, hb⟩
      have hs := FB32.step HS5.out hb
      have HS6 := Lib.hid hs
      clear hb c0 c1 c2 c3 c4
      obtain ⟨c0, c1, c2, c3, c4, c5, c6⟩ := hs
      clear c5 c6
      go_wp2_with fail
      refine (IX.out _).mono ?_
      rintro e v7 ⟨rfl, hb⟩
      have hs := FB32.step HS6.out hb
      have HS7 := Lib.hid hs
      clear hb c0 c1 c2 c3 c4
      obtain ⟨c0, c1, c2, c3, c4, c5, c6⟩ := hs
      clear c5 c6
      go_wp2_with fail
      refine (ZY.out _).mono ?_
      rintro e v8 ⟨rfl, hb⟩
      have hs := FB32.step HS7.out hb
      have HS8 := Lib.hid hs
      clear hb c0 c1 c2 c3 c4
      obtain ⟨c0, c1, c2, c3, c4, c5, c6⟩ := hs
      clear c5 c6
      go_wp2_with fail
      refine (IY.out _).mono ?_
      rintro e v9 ⟨rfl, hb⟩
      have hs := FB32.step HS8.out hb
      have HS9 := Lib.hid hs
      clear hb c0 c1 c2 c3 c4
      obtain ⟨c0, c1, c2, c3, c4, c5, c6⟩ := hs
      clear c5 c6
      go_wp2_with fail
      refine (MX.out _).mono ?_
      rintro e v10 ⟨rfl, hb⟩
      have hs := FB32.step HS9.out hb
      have HS10 := Lib.hid hs
      clear hb c0 c1 c2 c3 c4
      obtain ⟨c0, c1, c2, c3, c4, c5, c6⟩ := hs
      clear c5 c6
      go_wp2_with fail
      refine (MY.out _).mono ?_
      rintro e v11 ⟨rfl, hb⟩
      have hs := FB32.step HS10.out hb
      have HS11 := Lib.hid hs
      clear hb c0 c1 c2 c3 c4
      obtain ⟨c0, c1, c2, c3, c4, c5, c6⟩ := hs
      clear c5 c6
      go_wp2_with fail
      have HD := Lib.hid (FB32.drew HS11.out)
      go_region_held3 (fun w' => FB32 w w') (first | assumption | exact HD.out) (first | (go_at_call 43; (first | ((with_reducible refine (natOf_any _ mx LX.out).mono ?_); rintro e a1 ⟨va, rfl, na, ba⟩; have hs := FB32.step (w := w) (by assumption) ba) | ((with_reducible refine (natOf_any _ my LY.out).mono ?_); rintro e a2 ⟨vb, rfl, nb, bb⟩; have na := na.below bb; have hs := FB32.step (w := w) (by assumption) bb))) | (go_at_call 42; (with_reducible refine (RR.out _ _ _ na nb).mono ?_); rintro e a5 ⟨rfl, be⟩; have hs := FB32.step (w := w) (by assumption) be))
      go_wp2_with fail
      go_ret2
      exact ⟨rfl, FB32.below (by assumption)⟩
  · rcases kinds32 y with ny | ⟨ny, iy, zy, _, gy⟩ | ⟨ny, iy, zy, _, gy, _⟩ | ⟨ny, iy, zy, gy1, gy2, _⟩
    · skip
      have e : nanDiv32 x y = true := by simp [nanDiv32, ny]
      rw [e]
      simp only [if_true, Bool.not_true]
      rw [nx] at NX
      rw [ix] at IX
      rw [zx] at ZX
      rw [ny] at NY
      generalize neg32 x = sx at *
      generalize neg32 y = sy at *
      have SX := Lib.hid SX
      have SY := Lib.hid SY
      have NX := Lib.hid NX
      have NY := Lib.hid NY
      clear hx hy IX IY ZX ZY MX MY
      clear e nx ix zx gx1 gx2 ny
      go_enter Try.func21, Try.ntmps21
      go_wp2_with fail
      go_region_held3 (fun w' => FB32 w w') (first | assumption | exact HS.out) (first | (go_at_call 37; (first | with_reducible refine (SX.out _).mono ?_ | with_reducible refine (SY.out _).mono ?_); rintro e w1 ⟨rfl, hb⟩; have hs := FB32.step (w := w) (by assumption) hb; clear hb))
      have HS1 := Lib.hid hs
      go_wp2_with fail
      refine (NX.out _).mono ?_
      rintro e v2 ⟨rfl, hb⟩
      have hs := FB32.step HS1.out hb
      have HS2 := Lib.hid hs
      clear hb
      obtain ⟨c0, c1, c2, c3, c4, c5, c6⟩ := hs
      clear c5 c6
      go_wp2_with fail
      refine (NY.out _).mono ?_
      rintro e v3 ⟨rfl, hb⟩
      have hs := FB32.step HS2.out hb
      have HS3 := Lib.hid hs
      clear hb c0 c1 c2 c3 c4
      obtain ⟨c0, c1, c2, c3, c4, c5, c6⟩ := hs
      clear c5 c6
      go_wp2_with fail
      go_ret2
      exact ⟨rfl, FB32.below HS3.out⟩
    · skip
      have e : nanDiv32 x y = false := by simp [nanDiv32, nx, ix, zx, ny, iy, zy]
      rw [e]
      simp only [Bool.false_eq_true, if_false, Bool.not_false]
      have hbne : (neg32 x != neg32 y) = !(neg32 x == neg32 y) := rfl
      have er : div32 x y = sgn32 (neg32 x != neg32 y) 0 := div_zerok32 nx ny ix iy zy
      rw [er]
      have VS := fun w => fsigned32_any (neg32 x != neg32 y) 0 w (by omega)
      rw [nx] at NX
      rw [ix] at IX
      rw [zx] at ZX
      rw [ny] at NY
      rw [iy] at IY
      rw [zy] at ZY
      rw [hbne] at VS ⊢
      generalize neg32 x = sx at *
      generalize neg32 y = sy at *
      have VS := Lib.hid VS
      have SX := Lib.hid SX
      have SY := Lib.hid SY
      have NX := Lib.hid NX
      have NY := Lib.hid NY
      have IX := Lib.hid IX
      have IY := Lib.hid IY
      have ZX := Lib.hid ZX
      have ZY := Lib.hid ZY
      clear hx hy MX MY
      clear e er nx ix zx gx1 gx2 ny iy zy gy hbne
      generalize hR : sgn32 (!(sx == sy)) 0 = R at *
      clear hR
      go_enter Try.func21, Try.ntmps21
      go_wp2_with fail
      go_region_held3 (fun w' => FB32 w w') (first | assumption | exact HS.out) (first | (go_at_call 37; (first | with_reducible refine (SX.out _).mono ?_ | with_reducible refine (SY.out _).mono ?_); rintro e w1 ⟨rfl, hb⟩; have hs := FB32.step (w := w) (by assumption) hb; clear hb))
      have HS1 := Lib.hid hs
      go_wp2_with fail
      refine (NX.out _).mono ?_
      rintro e v2 ⟨rfl, hb⟩
      have hs := FB32.step HS1.out hb
      have HS2 := Lib.hid hs
      clear hb
      obtain ⟨c0, c1, c2, c3, c4, c5, c6⟩ := hs
      clear c5 c6
      go_wp2_with fail
      refine (NY.out _).mono ?_
      rintro e v3 ⟨rfl, hb⟩
      have hs := FB32.step HS2.out hb
      have HS3 := Lib.hid hs
      clear hb c0 c1 c2 c3 c4
      obtain ⟨c0, c1, c2, c3, c4, c5, c6⟩ := hs
      clear c5 c6
      go_wp2_with fail
      refine (IX.out _).mono ?_
      rintro e v4 ⟨rfl, hb⟩
      have hs := FB32.step HS3.out hb
      have HS4 := Lib.hid hs
      clear hb c0 c1 c2 c3 c4
      obtain ⟨c0, c1, c2, c3, c4, c5, c6⟩ := hs
      clear c5 c6
      go_wp2_with fail
      refine (ZX.out _).mono ?_
      rintro e v5 ⟨rfl, hb⟩
      have hs := FB32.step HS4.out hb
      have HS5 := Lib.hid hs
      clear hb c0 c1 c2 c3 c4
      obtain ⟨c0, c1, c2, c3, c4, c5, c6⟩ := hs
      clear c5 c6
      go_wp2_with fail
      refine (IX.out _).mono ?_
      rintro e v6 ⟨rfl, hb⟩
      have hs := FB32.step HS5.out hb
      have HS6 := Lib.hid hs
      clear hb c0 c1 c2 c3 c4
      obtain ⟨c0, c1, c2, c3, c4, c5, c6⟩ := hs
      clear c5 c6
      go_wp2_with fail
      refine (ZY.out _).mono ?_
      rintro e v7 ⟨rfl, hb⟩
      have hs := FB32.step HS6.out hb
      have HS7 := Lib.hid hs
      clear hb c0 c1 c2 c3 c4
      obtain ⟨c0, c1, c2, c3, c4, c5, c6⟩ := hs
      clear c5 c6
      go_wp2_with fail
      refine (IY.out _).mono ?_
      rintro e v8 ⟨rfl, hb⟩
      have hs := FB32.step HS7.out hb
      have HS8 := Lib.hid hs
      clear hb c0 c1 c2 c3 c4
      obtain ⟨c0, c1, c2, c3, c4, c5, c6⟩ := hs
      clear c5 c6
      go_wp2_with fail
      refine (VS.out _).mono ?_
      rintro e v9 ⟨rfl, hb⟩
      have hs := FB32.step HS8.out hb
      have HS9 := Lib.hid hs
      clear hb c0 c1 c2 c3 c4
      obtain ⟨c0, c1, c2, c3, c4, c5, c6⟩ := hs
      clear c5 c6
      go_wp2_with fail
      go_ret2
      exact ⟨rfl, FB32.below HS9.out⟩
    · skip
      have e : nanDiv32 x y = false := by simp [nanDiv32, nx, ix, zx, ny, iy, zy]
      rw [e]
      simp only [Bool.false_eq_true, if_false, Bool.not_false]
      have hbne : (neg32 x != neg32 y) = !(neg32 x == neg32 y) := rfl
      have er : div32 x y = sgn32 (neg32 x != neg32 y) 2139095040 := div_infk32 nx ny (.inr ⟨zy, zx⟩)
      rw [er]
      have VI := fun w => finfv32_any (neg32 x != neg32 y) w
      rw [nx] at NX
      rw [ix] at IX
      rw [zx] at ZX
      rw [ny] at NY
      rw [iy] at IY
      rw [zy] at ZY
      rw [hbne] at VI ⊢
      generalize neg32 x = sx at *
      generalize neg32 y = sy at *
      have VI := Lib.hid VI
      have SX := Lib.hid SX
      have SY := Lib.hid SY
      have NX := Lib.hid NX
      have NY := Lib.hid NY
      have IX := Lib.hid IX
      have IY := Lib.hid IY
      have ZX := Lib.hid ZX
      have ZY := Lib.hid ZY
      clear hx hy MX MY
      clear e er nx ix zx gx1 gx2 ny iy zy gy hbne
      generalize hR : sgn32 (!(sx == sy)) 2139095040 = R at *
      clear hR
      go_enter Try.func21, Try.ntmps21
      go_wp2_with fail
      go_region_held3 (fun w' => FB32 w w') (first | assumption | exact HS.out) (first | (go_at_call 37; (first | with_reducible refine (SX.out _).mono ?_ | with_reducible refine (SY.out _).mono ?_); rintro e w1 ⟨rfl, hb⟩; have hs := FB32.step (w := w) (by assumption) hb; clear hb))
      have HS1 := Lib.hid hs
      go_wp2_with fail
      refine (NX.out _).mono ?_
      rintro e v2 ⟨rfl, hb⟩
      have hs := FB32.step HS1.out hb
      have HS2 := Lib.hid hs
      clear hb
      obtain ⟨c0, c1, c2, c3, c4, c5, c6⟩ := hs
      clear c5 c6
      go_wp2_with fail
      refine (NY.out _).mono ?_
      rintro e v3 ⟨rfl, hb⟩
      have hs := FB32.step HS2.out hb
      have HS3 := Lib.hid hs
      clear hb c0 c1 c2 c3 c4
      obtain ⟨c0, c1, c2, c3, c4, c5, c6⟩ := hs
      clear c5 c6
      go_wp2_with fail
      refine (IX.out _).mono ?_
      rintro e v4 ⟨rfl, hb⟩
      have hs := FB32.step HS3.out hb
      have HS4 := Lib.hid hs
      clear hb c0 c1 c2 c3 c4
      obtain ⟨c0, c1, c2, c3, c4, c5, c6⟩ := hs
      clear c5 c6
      go_wp2_with fail
      refine (ZX.out _).mono ?_
      rintro e v5 ⟨rfl, hb⟩
      have hs := FB32.step HS4.out hb
      have HS5 := Lib.hid hs
      clear hb c0 c1 c2 c3 c4
      obtain ⟨c0, c1, c2, c3, c4, c5, c6⟩ := hs
      clear c5 c6
      go_wp2_with fail
      refine (IX.out _).mono ?_
      rintro e v6 ⟨rfl, hb⟩
      have hs := FB32.step HS5.out hb
      have HS6 := Lib.hid hs
      clear hb c0 c1 c2 c3 c4
      obtain ⟨c0, c1, c2, c3, c4, c5, c6⟩ := hs
      clear c5 c6
      go_wp2_with fail
      refine (ZY.out _).mono ?_
      rintro e v7 ⟨rfl, hb⟩
      have hs := FB32.step HS6.out hb
      have HS7 := Lib.hid hs
      clear hb c0 c1 c2 c3 c4
      obtain ⟨c0, c1, c2, c3, c4, c5, c6⟩ := hs
      clear c5 c6
      go_wp2_with fail
      refine (VI.out _).mono ?_
      rintro e v8 ⟨rfl, hb⟩
      have hs := FB32.step HS7.out hb
      have HS8 := Lib.hid hs
      clear hb c0 c1 c2 c3 c4
      obtain ⟨c0, c1, c2, c3, c4, c5, c6⟩ := hs
      clear c5 c6
      go_wp2_with fail
      go_ret2
      exact ⟨rfl, FB32.below HS8.out⟩
    · skip
      have e : nanDiv32 x y = false := by simp [nanDiv32, nx, ix, zx, ny, iy, zy]
      rw [e]
      simp only [Bool.false_eq_true, if_false, Bool.not_false]
      have hbne : (neg32 x != neg32 y) = !(neg32 x == neg32 y) := rfl
      have er : div32 x y = rd32 (neg32 x != neg32 y) (val32 x * 2 ^ 149) (val32 y) := div_finK32 nx ix ny iy zy
      rw [er]
      obtain ⟨RR, s1, s2, b1, b2, lx, ly⟩ := div_round32 x y gy1
      rw [hbne] at RR ⊢
      generalize rd32 (!(neg32 x == neg32 y)) (val32 x * 2 ^ 149) (val32 y) = R at *
      generalize sm32 x = mx at *
      generalize sm32 y = my at *
      generalize se32 x = dx at *
      generalize se32 y = dy at *
      have sw : IntKind.i64.wrap (-149 + (dx : Int) - (-149 + (dy : Int))) = -149 + (dx : Int) - (-149 + (dy : Int)) := IntWalk.i64_in _ (by omega)
      rw [nx] at NX
      rw [ix] at IX
      rw [zx] at ZX
      rw [ny] at NY
      rw [iy] at IY
      rw [zy] at ZY
      generalize neg32 x = sx at *
      generalize neg32 y = sy at *
      have RR := Lib.hid RR
      have LX := Lib.hid lx
      have LY := Lib.hid ly
      have SX := Lib.hid SX
      have SY := Lib.hid SY
      have NX := Lib.hid NX
      have NY := Lib.hid NY
      have IX := Lib.hid IX
      have IY := Lib.hid IY
      have ZX := Lib.hid ZX
      have ZY := Lib.hid ZY
      have MX := Lib.hid MX
      have MY := Lib.hid MY
      clear hx hy
      clear e er nx ix zx gx1 gx2 ny iy zy gy1 gy2 hbne lx ly
      go_enter Try.func21, Try.ntmps21
      go_wp2_with fail
      go_region_held3 (fun w' => FB32 w w') (first | assumption | exact HS.out) (first | (go_at_call 37; (first | with_reducible refine (SX.out _).mono ?_ | with_reducible refine (SY.out _).mono ?_); rintro e w1 ⟨rfl, hb⟩; have hs := FB32.step (w := w) (by assumption) hb; clear hb))
      have HS1 := Lib.hid hs
      go_wp2_with fail
      refine (NX.out _).mono ?_
      rintro e v2 ⟨rfl, hb⟩
      have hs := FB32.step HS1.out hb
      have HS2 := Lib.hid hs
      clear hb
      obtain ⟨c0, c1, c2, c3, c4, c5, c6⟩ := hs
      clear c5 c6
      go_wp2_with fail
      refine (NY.out _).mono ?_
      rintro e v3 ⟨rfl, hb⟩
      have hs := FB32.step HS2.out hb
      have HS3 := Lib.hid hs
      clear hb c0 c1 c2 c3 c4
      obtain ⟨c0, c1, c2, c3, c4, c5, c6⟩ := hs
      clear c5 c6
      go_wp2_with fail
      refine (IX.out _).mono ?_
      rintro e v4 ⟨rfl, hb⟩
      have hs := FB32.step HS3.out hb
      have HS4 := Lib.hid hs
      clear hb c0 c1 c2 c3 c4
      obtain ⟨c0, c1, c2, c3, c4, c5, c6⟩ := hs
      clear c5 c6
      go_wp2_with fail
      refine (ZX.out _).mono ?_
      rintro e v5 ⟨rfl, hb⟩
      have hs := FB32.step HS4.out hb
      have HS5 := Lib.hid hs
      clear hb c0 c1 c2 c3 c4
      obtain ⟨c0, c1, c2, c3, c4, c5, c6⟩ := hs
      clear c5 c6
      go_wp2_with fail
      refine (IX.out _).mono ?_
      rintro e v6 ⟨rfl, hb⟩
      have hs := FB32.step HS5.out hb
      have HS6 := Lib.hid hs
      clear hb c0 c1 c2 c3 c4
      obtain ⟨c0, c1, c2, c3, c4, c5, c6⟩ := hs
      clear c5 c6
      go_wp2_with fail
      refine (ZY.out _).mono ?_
      rintro e v7 ⟨rfl, hb⟩
      have hs := FB32.step HS6.out hb
      have HS7 := Lib.hid hs
      clear hb c0 c1 c2 c3 c4
      obtain ⟨c0, c1, c2, c3, c4, c5, c6⟩ := hs
      clear c5 c6
      go_wp2_with fail
      refine (IY.out _).mono ?_
      rintro e v8 ⟨rfl, hb⟩
      have hs := FB32.step HS7.out hb
      have HS8 := Lib.hid hs
      clear hb c0 c1 c2 c3 c4
      obtain ⟨c0, c1, c2, c3, c4, c5, c6⟩ := hs
      clear c5 c6
      go_wp2_with fail
      refine (MX.out _).mono ?_
      rintro e v9 ⟨rfl, hb⟩
      have hs := FB32.step HS8.out hb
      have HS9 := Lib.hid hs
      clear hb c0 c1 c2 c3 c4
      obtain ⟨c0, c1, c2, c3, c4, c5, c6⟩ := hs
      clear c5 c6
      go_wp2_with fail
      refine (MY.out _).mono ?_
      rintro e v10 ⟨rfl, hb⟩
      have hs := FB32.step HS9.out hb
      have HS10 := Lib.hid hs
      clear hb c0 c1 c2 c3 c4
      obtain ⟨c0, c1, c2, c3, c4, c5, c6⟩ := hs
      clear c5 c6
      go_wp2_with fail
      have HD := Lib.hid (FB32.drew HS10.out)
      go_region_held3 (fun w' => FB32 w w') (first | assumption | exact HD.out) (first | (go_at_call 43; (first | ((with_reducible refine (natOf_any _ mx LX.out).mono ?_); rintro e a1 ⟨va, rfl, na, ba⟩; have hs := FB32.step (w := w) (by assumption) ba) | ((with_reducible refine (natOf_any _ my LY.out).mono ?_); rintro e a2 ⟨vb, rfl, nb, bb⟩; have na := na.below bb; have hs := FB32.step (w := w) (by assumption) bb))) | (go_at_call 42; (with_reducible refine (RR.out _ _ _ na nb).mono ?_); rintro e a5 ⟨rfl, be⟩; have hs := FB32.step (w := w) (by assumption) be))
      go_wp2_with fail
      go_ret2
      exact ⟨rfl, FB32.below (by assumption)⟩
end Go.Proofs.Ytlagofjbgjhenaa.SF
