/-
  The walk through the reference's Add.
-/
import Derived.Test.YtdadcbjhjmdheaaSpecR
namespace Go.Proofs.Ytdadcbjhjmdheaa.SF
open Go.ChangeShapes Go.WideShapes Go.ChangeAt Go.RowKit
set_option linter.unusedVariables false


def nanAdd64 (x y : Nat) : Bool := isNaN64 x || isNaN64 y || (isInf64 x && isInf64 y && decide (x ≠ y))
set_option maxRecDepth 100000 in
set_option maxHeartbeats 4000000 in
theorem faddlesame64_w (x y : Nat) (w : World) (hx : x < 18446744073709551616) (hy : y < 18446744073709551616) (nx : isNaN64 x = false) (ix : isInf64 x = false) (ny : isNaN64 y = false) (iy : isInf64 y = false) (ho : se64 x ≤ se64 y) (hs : neg64 x = neg64 y) : Calls Try.prog 33 #[.agg #[.int .i64 53, .int .i64 52, .int .i64 (-1074), .int .u64 2047, .int .u64 9223372036854775808], .int .u64 (x : Int), .int .u64 (y : Int)] w (RetB (.tuple #[.int .u64 (((addf64 x y) : Nat) : Int), .bool true]) w) := by
  have SX := fun w => fneg64_any x w hx
  have SY := fun w => fneg64_any y w hy
  have NX := fun w => fnan64_any x w hx
  have NY := fun w => fnan64_any y w hy
  have IX := fun w => finf64_any x w hx
  have IY := fun w => finf64_any y w hy
  have MX := fun w => fsize64_any x w hx
  have MY := fun w => fsize64_any y w hy
  have HSa := Lib.hid (FB64.start0 w)
  rw [nx] at NX
  rw [ix] at IX
  rw [ny] at NY
  rw [iy] at IY
  have b1 := sm_lt64 x
  have b2 := sm_lt64 y
  have s1 := se_lt64 x
  have s2 := se_lt64 y
  have v1 := val_sm64 x
  have v2 := val_sm64 y
  obtain ⟨a, ha, ha2, ka⟩ : ∃ a, a = sm64 x * 2 ^ 0 ∧ val64 x = a * 2 ^ se64 x ∧ a < 2 ^ (32 * 100) := add_sz v1 (by omega) (by omega) (by omega)
  obtain ⟨b, hb, hb2, kb⟩ : ∃ b, b = sm64 y * 2 ^ (se64 y - se64 x) ∧ val64 y = b * 2 ^ se64 x ∧ b < 2 ^ (32 * 100) := add_sz v2 (by omega) (by omega) (by omega)
  have er : addf64 x y = rd64 (neg64 x) (val64 x + val64 y) 1 := addf_same064 hs
  rw [er, ha2, hb2, ← Nat.add_mul]
  have hcmp : True := by
    trivial
  have CM := fun (w : World) (va vb : Value) (h1 : NatAt w va a) (h2 : NatAt w vb b) => natCmp 100 (by omega) h1 h2 ka kb
  generalize cmpI a b = cc at CM
  have RR := fun (w : World) (va vb : Value) => add_round64 w (neg64 x) va vb (a + b) (se64 x) (100 + 1) (by omega) (by omega) (by omega)
  have kn := kn_add ka kb
  generalize rd64 (neg64 x) ((a + b) * 2 ^ se64 x) 1 = R at *
  have SH1 := fun (w : World) (va : Value) (h1 : NatAt w va (sm64 x)) => natShl (s := 0) 100 (by omega) h1 (lt_100 (by omega)) (by omega)
  have SH2 := fun (w : World) (va : Value) (h1 : NatAt w va (sm64 y)) => natShl (s := (se64 y - se64 x)) 100 (by omega) h1 (lt_100 (by omega)) (by omega)
  rw [← ha] at SH1
  rw [← hb] at SH2
  have t1 : -1074 + (se64 x : Int) ≤ -1074 + (se64 y : Int) := by omega
  have d1 : -1074 + (se64 x : Int) - (-1074 + (se64 x : Int)) = ((0 : Nat) : Int) := by omega
  have d2 : -1074 + (se64 y : Int) - (-1074 + (se64 x : Int)) = ((se64 y - se64 x : Nat) : Int) := by omega
  have q2 : se64 y - se64 x < 2047 := by omega
  generalize se64 y - se64 x = dd at *
  have lx : sm64 x < 18446744073709551616 := by omega
  have ly : sm64 y < 18446744073709551616 := by omega
  rw [← hs] at SY
  have LX := Lib.hid lx
  have LY := Lib.hid ly
  clear lx ly v1 v2 ha hb ha2 hb2 nx ix ny iy hs er
  generalize sm64 x = mx at *
  generalize sm64 y = my at *
  generalize se64 x = dx at *
  generalize se64 y = dy at *
  generalize neg64 x = sx at *
  have SX := Lib.hid SX
  have SY := Lib.hid SY
  have NX := Lib.hid NX
  have NY := Lib.hid NY
  have IX := Lib.hid IX
  have IY := Lib.hid IY
  have MX := Lib.hid MX
  have MY := Lib.hid MY
  have CM := Lib.hid CM
  have SH1 := Lib.hid SH1
  have SH2 := Lib.hid SH2
  have RR := Lib.hid RR
  have KA := Lib.hid ka
  have KB := Lib.hid kb
  have HC := Lib.hid hcmp
  have KN := Lib.hid kn
  clear hx hy ka kb hcmp ho kn
  go_enter Try.func33, Try.ntmps33
  go_wp2_with fail
  go_wp2_with fail
  refine (NX.out _).mono ?_
  rintro e v1 ⟨rfl, hb⟩
  have hs := FB64.step HSa.out hb
  have HS1 := Lib.hid hs
  clear hb
  obtain ⟨c0, c1, c2, c3, c4, c5, c6⟩ := hs
  clear c5 c6
  go_wp2_with fail
  refine (NY.out _).mono ?_
  rintro e v2 ⟨rfl, hb⟩
  have hs := FB64.step HS1.out hb
  have HS2 := Lib.hid hs
  clear hb c0 c1 c2 c3 c4
  obtain ⟨c0, c1, c2, c3, c4, c5, c6⟩ := hs
  clear c5 c6
  go_wp2_with fail
  refine (IX.out _).mono ?_
  rintro e v3 ⟨rfl, hb⟩
  have hs := FB64.step HS2.out hb
  have HS3 := Lib.hid hs
  clear hb c0 c1 c2 c3 c4
  obtain ⟨c0, c1, c2, c3, c4, c5, c6⟩ := hs
  clear c5 c6
  go_wp2_with fail
  refine (IX.out _).mono ?_
  rintro e v4 ⟨rfl, hb⟩
  have hs := FB64.step HS3.out hb
  have HS4 := Lib.hid hs
  clear hb c0 c1 c2 c3 c4
  obtain ⟨c0, c1, c2, c3, c4, c5, c6⟩ := hs
  clear c5 c6
  go_wp2_with fail
  refine (IY.out _).mono ?_
  rintro e v5 ⟨rfl, hb⟩
  have hs := FB64.step HS4.out hb
  have HS5 := Lib.hid hs
  clear hb c0 c1 c2 c3 c4
  obtain ⟨c0, c1, c2, c3, c4, c5, c6⟩ := hs
  clear c5 c6
  go_wp2_with fail
  refine (MX.out _).mono ?_
  rintro e v6 ⟨rfl, hb⟩
  have hs := FB64.step HS5.out hb
  have HS6 := Lib.hid hs
  clear hb c0 c1 c2 c3 c4
  obtain ⟨c0, c1, c2, c3, c4, c5, c6⟩ := hs
  clear c5 c6
  go_wp2_with fail
  refine (MY.out _).mono ?_
  rintro e v7 ⟨rfl, hb⟩
  have hs := FB64.step HS6.out hb
  have HS7 := Lib.hid hs
  clear hb c0 c1 c2 c3 c4
  obtain ⟨c0, c1, c2, c3, c4, c5, c6⟩ := hs
  clear c5 c6
  have HF0 := HS7
  clear c0 c1 c2 c3 c4
  go_wp2_with fail
  refine (natOf_any _ mx LX.out).mono ?_
  rintro e a1 ⟨va, rfl, na, ba⟩
  have C1 := Lib.hid (SH1.out _ _ na)
  have HF1 := Lib.hid (FB64.step HF0.out ba)
  clear na ba
  go_wp2_with fail
  refine (C1.out).mono ?_
  rintro e a2 ⟨vA, rfl, nA, bA⟩
  have HA := Lib.hid nA
  have HF2 := Lib.hid (FB64.step HF1.out bA)
  clear nA bA
  go_wp2_with fail
  refine (natOf_any _ my LY.out).mono ?_
  rintro e a3 ⟨vb, rfl, nb, bb⟩
  have C2 := Lib.hid (SH2.out _ _ nb)
  have HA := Lib.hid (HA.out.below bb)
  have HF3 := Lib.hid (FB64.step HF2.out bb)
  clear nb bb
  go_wp2_with fail
  refine (C2.out).mono ?_
  rintro e a4 ⟨vB, rfl, nB, bB⟩
  have HA := Lib.hid (HA.out.below bB)
  have HB := Lib.hid nB
  have hf4 := FB64.step HF3.out bB
  have HF4 := Lib.hid hf4
  clear nB bB
  obtain ⟨c0, c1, c2, c3, c4, c5, c6⟩ := hf4
  clear c5 c6
  have C3 := Lib.hid (CM.out _ _ _ HA.out HB.out)
  go_wp2_with fail
  refine (C3.out).mono ?_
  rintro e a5 ⟨rfl, rfl⟩
  have HD : Hid (FB64 w a4.drew ∧ NatAt a4.drew vA a ∧ NatAt a4.drew vB b) := Lib.hid ⟨FB64.drew HF4.out, HA.out.drew, HB.out.drew⟩
  go_wp2_with fail
  go_region_held3 (fun w' => FB64 w w' ∧ NatAt w' vA a ∧ NatAt w' vB b) (first | assumption | exact HD.out) (first | (go_at_call 36; (first | with_reducible refine (SX.out _).mono ?_ | with_reducible refine (SY.out _).mono ?_); rintro e w1 ⟨rfl, hb⟩; have hs := add_held64 (w := w) (va := vA) (vb := vB) (by assumption) hb; clear hb))
  have HE := Lib.hid hs
  go_wp2_with fail
  have HD2 : Hid (FB64 w w1.drew ∧ NatAt w1.drew vA a ∧ NatAt w1.drew vB b) := Lib.hid ⟨FB64.drew HE.out.1, HE.out.2.1.drew, HE.out.2.2.drew⟩
  clear hs
  go_region_held3 (fun w' => FB64 w w' ∧ NatAt w' vA a ∧ NatAt w' vB b) (first | assumption | exact HD2.out) (first | (go_at_call 36; (with_reducible refine (SX.out _).mono ?_); rintro e w2 ⟨rfl, hb⟩; have hs := add_held64 (w := w) (va := vA) (vb := vB) (by assumption) hb; clear hb) | (go_at_call 58; obtain ⟨_, nA, nB⟩ := (show FB64 w _ ∧ NatAt _ vA a ∧ NatAt _ vB b by assumption); (with_reducible refine (natAdd 100 (by omega) nA nB KA.out KB.out).mono ?_); rintro e a6 ⟨vN, rfl, nN, bN⟩; have hs := add_held64 (w := w) (va := vA) (vb := vB) (by assumption) bN; clear bN nA nB) | (go_at_call 59; (with_reducible refine (one_any _).mono ?_); rintro e a7 ⟨vO, rfl, nO, bO⟩; have nN := nN.below bO; have hs := add_held64 (w := w) (va := vA) (vb := vB) (by assumption) bO; clear bO) | (go_at_call 57; (with_reducible refine (RR.out _ _ _ nN nO KN.out).mono ?_); rintro e a8 ⟨rfl, bR⟩; have hs := add_held64 (w := w) (va := vA) (vb := vB) (by assumption) bR; clear bR))
  go_wp2_with fail
  go_ret2
  exact ⟨rfl, FB64.below (And.left hs)⟩
set_option maxRecDepth 100000 in
set_option maxHeartbeats 4000000 in
theorem faddleeq64_w (x y : Nat) (w : World) (hx : x < 18446744073709551616) (hy : y < 18446744073709551616) (nx : isNaN64 x = false) (ix : isInf64 x = false) (ny : isNaN64 y = false) (iy : isInf64 y = false) (ho : se64 x ≤ se64 y) (hs : neg64 x ≠ neg64 y) (hc : val64 x = val64 y) : Calls Try.prog 33 #[.agg #[.int .i64 53, .int .i64 52, .int .i64 (-1074), .int .u64 2047, .int .u64 9223372036854775808], .int .u64 (x : Int), .int .u64 (y : Int)] w (RetB (.tuple #[.int .u64 (((addf64 x y) : Nat) : Int), .bool true]) w) := by
  have SX := fun w => fneg64_any x w hx
  have SY := fun w => fneg64_any y w hy
  have NX := fun w => fnan64_any x w hx
  have NY := fun w => fnan64_any y w hy
  have IX := fun w => finf64_any x w hx
  have IY := fun w => finf64_any y w hy
  have MX := fun w => fsize64_any x w hx
  have MY := fun w => fsize64_any y w hy
  have HSa := Lib.hid (FB64.start0 w)
  rw [nx] at NX
  rw [ix] at IX
  rw [ny] at NY
  rw [iy] at IY
  have b1 := sm_lt64 x
  have b2 := sm_lt64 y
  have s1 := se_lt64 x
  have s2 := se_lt64 y
  have v1 := val_sm64 x
  have v2 := val_sm64 y
  obtain ⟨a, ha, ha2, ka⟩ : ∃ a, a = sm64 x * 2 ^ 0 ∧ val64 x = a * 2 ^ se64 x ∧ a < 2 ^ (32 * 100) := add_sz v1 (by omega) (by omega) (by omega)
  obtain ⟨b, hb, hb2, kb⟩ : ∃ b, b = sm64 y * 2 ^ (se64 y - se64 x) ∧ val64 y = b * 2 ^ se64 x ∧ b < 2 ^ (32 * 100) := add_sz v2 (by omega) (by omega) (by omega)
  rw [addf_eq64 hs hc]
  have hcmp : a = b := by
    rw [ha2, hb2] at hc; exact Nat.eq_of_mul_eq_mul_right (two_pow_pos _) hc
  have CM := fun (w : World) (va vb : Value) (h1 : NatAt w va a) (h2 : NatAt w vb b) => natCmp 100 (by omega) h1 h2 ka kb
  rw [show cmpI a b = 0 by rw [hcmp]; exact cmpI_self b] at CM
  have SH1 := fun (w : World) (va : Value) (h1 : NatAt w va (sm64 x)) => natShl (s := 0) 100 (by omega) h1 (lt_100 (by omega)) (by omega)
  have SH2 := fun (w : World) (va : Value) (h1 : NatAt w va (sm64 y)) => natShl (s := (se64 y - se64 x)) 100 (by omega) h1 (lt_100 (by omega)) (by omega)
  rw [← ha] at SH1
  rw [← hb] at SH2
  have t1 : -1074 + (se64 x : Int) ≤ -1074 + (se64 y : Int) := by omega
  have d1 : -1074 + (se64 x : Int) - (-1074 + (se64 x : Int)) = ((0 : Nat) : Int) := by omega
  have d2 : -1074 + (se64 y : Int) - (-1074 + (se64 x : Int)) = ((se64 y - se64 x : Nat) : Int) := by omega
  have q2 : se64 y - se64 x < 2047 := by omega
  generalize se64 y - se64 x = dd at *
  have lx : sm64 x < 18446744073709551616 := by omega
  have ly : sm64 y < 18446744073709551616 := by omega
  have hns : neg64 y = !neg64 x := bool_ne hs
  rw [hns] at SY
  have LX := Lib.hid lx
  have LY := Lib.hid ly
  clear lx ly v1 v2 ha hb ha2 hb2 nx ix ny iy hs hc hns
  generalize sm64 x = mx at *
  generalize sm64 y = my at *
  generalize se64 x = dx at *
  generalize se64 y = dy at *
  generalize neg64 x = sx at *
  have SX := Lib.hid SX
  have SY := Lib.hid SY
  have NX := Lib.hid NX
  have NY := Lib.hid NY
  have IX := Lib.hid IX
  have IY := Lib.hid IY
  have MX := Lib.hid MX
  have MY := Lib.hid MY
  have CM := Lib.hid CM
  have SH1 := Lib.hid SH1
  have SH2 := Lib.hid SH2
  have KA := Lib.hid ka
  have KB := Lib.hid kb
  have HC := Lib.hid hcmp
  clear hx hy ka kb hcmp ho
  go_enter Try.func33, Try.ntmps33
  go_wp2_with fail
  go_wp2_with fail
  refine (NX.out _).mono ?_
  rintro e v1 ⟨rfl, hb⟩
  have hs := FB64.step HSa.out hb
  have HS1 := Lib.hid hs
  clear hb
  obtain ⟨c0, c1, c2, c3, c4, c5, c6⟩ := hs
  clear c5 c6
  go_wp2_with fail
  refine (NY.out _).mono ?_
  rintro e v2 ⟨rfl, hb⟩
  have hs := FB64.step HS1.out hb
  have HS2 := Lib.hid hs
  clear hb c0 c1 c2 c3 c4
  obtain ⟨c0, c1, c2, c3, c4, c5, c6⟩ := hs
  clear c5 c6
  go_wp2_with fail
  refine (IX.out _).mono ?_
  rintro e v3 ⟨rfl, hb⟩
  have hs := FB64.step HS2.out hb
  have HS3 := Lib.hid hs
  clear hb c0 c1 c2 c3 c4
  obtain ⟨c0, c1, c2, c3, c4, c5, c6⟩ := hs
  clear c5 c6
  go_wp2_with fail
  refine (IX.out _).mono ?_
  rintro e v4 ⟨rfl, hb⟩
  have hs := FB64.step HS3.out hb
  have HS4 := Lib.hid hs
  clear hb c0 c1 c2 c3 c4
  obtain ⟨c0, c1, c2, c3, c4, c5, c6⟩ := hs
  clear c5 c6
  go_wp2_with fail
  refine (IY.out _).mono ?_
  rintro e v5 ⟨rfl, hb⟩
  have hs := FB64.step HS4.out hb
  have HS5 := Lib.hid hs
  clear hb c0 c1 c2 c3 c4
  obtain ⟨c0, c1, c2, c3, c4, c5, c6⟩ := hs
  clear c5 c6
  go_wp2_with fail
  refine (MX.out _).mono ?_
  rintro e v6 ⟨rfl, hb⟩
  have hs := FB64.step HS5.out hb
  have HS6 := Lib.hid hs
  clear hb c0 c1 c2 c3 c4
  obtain ⟨c0, c1, c2, c3, c4, c5, c6⟩ := hs
  clear c5 c6
  go_wp2_with fail
  refine (MY.out _).mono ?_
  rintro e v7 ⟨rfl, hb⟩
  have hs := FB64.step HS6.out hb
  have HS7 := Lib.hid hs
  clear hb c0 c1 c2 c3 c4
  obtain ⟨c0, c1, c2, c3, c4, c5, c6⟩ := hs
  clear c5 c6
  have HF0 := HS7
  clear c0 c1 c2 c3 c4
  go_wp2_with fail
  refine (natOf_any _ mx LX.out).mono ?_
  rintro e a1 ⟨va, rfl, na, ba⟩
  have C1 := Lib.hid (SH1.out _ _ na)
  have HF1 := Lib.hid (FB64.step HF0.out ba)
  clear na ba
  go_wp2_with fail
  refine (C1.out).mono ?_
  rintro e a2 ⟨vA, rfl, nA, bA⟩
  have HA := Lib.hid nA
  have HF2 := Lib.hid (FB64.step HF1.out bA)
  clear nA bA
  go_wp2_with fail
  refine (natOf_any _ my LY.out).mono ?_
  rintro e a3 ⟨vb, rfl, nb, bb⟩
  have C2 := Lib.hid (SH2.out _ _ nb)
  have HA := Lib.hid (HA.out.below bb)
  have HF3 := Lib.hid (FB64.step HF2.out bb)
  clear nb bb
  go_wp2_with fail
  refine (C2.out).mono ?_
  rintro e a4 ⟨vB, rfl, nB, bB⟩
  have HA := Lib.hid (HA.out.below bB)
  have HB := Lib.hid nB
  have hf4 := FB64.step HF3.out bB
  have HF4 := Lib.hid hf4
  clear nB bB
  obtain ⟨c0, c1, c2, c3, c4, c5, c6⟩ := hf4
  clear c5 c6
  have C3 := Lib.hid (CM.out _ _ _ HA.out HB.out)
  go_wp2_with fail
  refine (C3.out).mono ?_
  rintro e a5 ⟨rfl, rfl⟩
  have HD : Hid (FB64 w a4.drew ∧ NatAt a4.drew vA a ∧ NatAt a4.drew vB b) := Lib.hid ⟨FB64.drew HF4.out, HA.out.drew, HB.out.drew⟩
  go_wp2_with fail
  go_region_held3 (fun w' => FB64 w w' ∧ NatAt w' vA a ∧ NatAt w' vB b) (first | assumption | exact HD.out) (first | (go_at_call 36; (first | with_reducible refine (SX.out _).mono ?_ | with_reducible refine (SY.out _).mono ?_); rintro e w1 ⟨rfl, hb⟩; have hs := add_held64 (w := w) (va := vA) (vb := vB) (by assumption) hb; clear hb))
  have HE := Lib.hid hs
  go_wp2_with fail
  go_ret2
  exact ⟨rfl, FB64.below HE.out.1⟩
set_option maxRecDepth 100000 in
set_option maxHeartbeats 4000000 in
theorem faddlegt64_w (x y : Nat) (w : World) (hx : x < 18446744073709551616) (hy : y < 18446744073709551616) (nx : isNaN64 x = false) (ix : isInf64 x = false) (ny : isNaN64 y = false) (iy : isInf64 y = false) (ho : se64 x ≤ se64 y) (hs : neg64 x ≠ neg64 y) (hc : val64 y < val64 x) : Calls Try.prog 33 #[.agg #[.int .i64 53, .int .i64 52, .int .i64 (-1074), .int .u64 2047, .int .u64 9223372036854775808], .int .u64 (x : Int), .int .u64 (y : Int)] w (RetB (.tuple #[.int .u64 (((addf64 x y) : Nat) : Int), .bool true]) w) := by
  have SX := fun w => fneg64_any x w hx
  have SY := fun w => fneg64_any y w hy
  have NX := fun w => fnan64_any x w hx
  have NY := fun w => fnan64_any y w hy
  have IX := fun w => finf64_any x w hx
  have IY := fun w => finf64_any y w hy
  have MX := fun w => fsize64_any x w hx
  have MY := fun w => fsize64_any y w hy
  have HSa := Lib.hid (FB64.start0 w)
  rw [nx] at NX
  rw [ix] at IX
  rw [ny] at NY
  rw [iy] at IY
  have b1 := sm_lt64 x
  have b2 := sm_lt64 y
  have s1 := se_lt64 x
  have s2 := se_lt64 y
  have v1 := val_sm64 x
  have v2 := val_sm64 y
  obtain ⟨a, ha, ha2, ka⟩ : ∃ a, a = sm64 x * 2 ^ 0 ∧ val64 x = a * 2 ^ se64 x ∧ a < 2 ^ (32 * 100) := add_sz v1 (by omega) (by omega) (by omega)
  obtain ⟨b, hb, hb2, kb⟩ : ∃ b, b = sm64 y * 2 ^ (se64 y - se64 x) ∧ val64 y = b * 2 ^ se64 x ∧ b < 2 ^ (32 * 100) := add_sz v2 (by omega) (by omega) (by omega)
  have er := addf_diff64 hs hc
  rw [er, ha2, hb2, ← Nat.sub_mul]
  have hcmp : b < a := by
    rw [ha2, hb2] at hc; exact Nat.lt_of_mul_lt_mul_right hc
  have CM := fun (w : World) (va vb : Value) (h1 : NatAt w va a) (h2 : NatAt w vb b) => natCmp 100 (by omega) h1 h2 ka kb
  have hcg : cmpI a b = 1 := by unfold cmpI; rw [if_neg (by omega), if_neg (by omega)]
  rw [hcg] at CM
  have RR := fun (w : World) (va vb : Value) => add_round64 w (neg64 x) va vb (a - b) (se64 x) (100 + 1) (by omega) (by omega) (by omega)
  have kn := kn_sub (b := b) ka
  generalize rd64 (neg64 x) ((a - b) * 2 ^ se64 x) 1 = R at *
  have SH1 := fun (w : World) (va : Value) (h1 : NatAt w va (sm64 x)) => natShl (s := 0) 100 (by omega) h1 (lt_100 (by omega)) (by omega)
  have SH2 := fun (w : World) (va : Value) (h1 : NatAt w va (sm64 y)) => natShl (s := (se64 y - se64 x)) 100 (by omega) h1 (lt_100 (by omega)) (by omega)
  rw [← ha] at SH1
  rw [← hb] at SH2
  have t1 : -1074 + (se64 x : Int) ≤ -1074 + (se64 y : Int) := by omega
  have d1 : -1074 + (se64 x : Int) - (-1074 + (se64 x : Int)) = ((0 : Nat) : Int) := by omega
  have d2 : -1074 + (se64 y : Int) - (-1074 + (se64 x : Int)) = ((se64 y - se64 x : Nat) : Int) := by omega
  have q2 : se64 y - se64 x < 2047 := by omega
  generalize se64 y - se64 x = dd at *
  have lx : sm64 x < 18446744073709551616 := by omega
  have ly : sm64 y < 18446744073709551616 := by omega
  have hns : neg64 y = !neg64 x := bool_ne hs
  rw [hns] at SY
  have LX := Lib.hid lx
  have LY := Lib.hid ly
  clear lx ly v1 v2 ha hb ha2 hb2 nx ix ny iy hs hc hns er
  generalize sm64 x = mx at *
  generalize sm64 y = my at *
  generalize se64 x = dx at *
  generalize se64 y = dy at *
  generalize neg64 x = sx at *
  have SX := Lib.hid SX
  have SY := Lib.hid SY
  have NX := Lib.hid NX
  have NY := Lib.hid NY
  have IX := Lib.hid IX
  have IY := Lib.hid IY
  have MX := Lib.hid MX
  have MY := Lib.hid MY
  have CM := Lib.hid CM
  have SH1 := Lib.hid SH1
  have SH2 := Lib.hid SH2
  have RR := Lib.hid RR
  have KA := Lib.hid ka
  have KB := Lib.hid kb
  have HC := Lib.hid hcmp
  have KN := Lib.hid kn
  clear hx hy ka kb hcmp ho kn
  go_enter Try.func33, Try.ntmps33
  go_wp2_with fail
  go_wp2_with fail
  refine (NX.out _).mono ?_
  rintro e v1 ⟨rfl, hb⟩
  have hs := FB64.step HSa.out hb
  have HS1 := Lib.hid hs
  clear hb
  obtain ⟨c0, c1, c2, c3, c4, c5, c6⟩ := hs
  clear c5 c6
  go_wp2_with fail
  refine (NY.out _).mono ?_
  rintro e v2 ⟨rfl, hb⟩
  have hs := FB64.step HS1.out hb
  have HS2 := Lib.hid hs
  clear hb c0 c1 c2 c3 c4
  obtain ⟨c0, c1, c2, c3, c4, c5, c6⟩ := hs
  clear c5 c6
  go_wp2_with fail
  refine (IX.out _).mono ?_
  rintro e v3 ⟨rfl, hb⟩
  have hs := FB64.step HS2.out hb
  have HS3 := Lib.hid hs
  clear hb c0 c1 c2 c3 c4
  obtain ⟨c0, c1, c2, c3, c4, c5, c6⟩ := hs
  clear c5 c6
  go_wp2_with fail
  refine (IX.out _).mono ?_
  rintro e v4 ⟨rfl, hb⟩
  have hs := FB64.step HS3.out hb
  have HS4 := Lib.hid hs
  clear hb c0 c1 c2 c3 c4
  obtain ⟨c0, c1, c2, c3, c4, c5, c6⟩ := hs
  clear c5 c6
  go_wp2_with fail
  refine (IY.out _).mono ?_
  rintro e v5 ⟨rfl, hb⟩
  have hs := FB64.step HS4.out hb
  have HS5 := Lib.hid hs
  clear hb c0 c1 c2 c3 c4
  obtain ⟨c0, c1, c2, c3, c4, c5, c6⟩ := hs
  clear c5 c6
  go_wp2_with fail
  refine (MX.out _).mono ?_
  rintro e v6 ⟨rfl, hb⟩
  have hs := FB64.step HS5.out hb
  have HS6 := Lib.hid hs
  clear hb c0 c1 c2 c3 c4
  obtain ⟨c0, c1, c2, c3, c4, c5, c6⟩ := hs
  clear c5 c6
  go_wp2_with fail
  refine (MY.out _).mono ?_
  rintro e v7 ⟨rfl, hb⟩
  have hs := FB64.step HS6.out hb
  have HS7 := Lib.hid hs
  clear hb c0 c1 c2 c3 c4
  obtain ⟨c0, c1, c2, c3, c4, c5, c6⟩ := hs
  clear c5 c6
  have HF0 := HS7
  clear c0 c1 c2 c3 c4
  go_wp2_with fail
  refine (natOf_any _ mx LX.out).mono ?_
  rintro e a1 ⟨va, rfl, na, ba⟩
  have C1 := Lib.hid (SH1.out _ _ na)
  have HF1 := Lib.hid (FB64.step HF0.out ba)
  clear na ba
  go_wp2_with fail
  refine (C1.out).mono ?_
  rintro e a2 ⟨vA, rfl, nA, bA⟩
  have HA := Lib.hid nA
  have HF2 := Lib.hid (FB64.step HF1.out bA)
  clear nA bA
  go_wp2_with fail
  refine (natOf_any _ my LY.out).mono ?_
  rintro e a3 ⟨vb, rfl, nb, bb⟩
  have C2 := Lib.hid (SH2.out _ _ nb)
  have HA := Lib.hid (HA.out.below bb)
  have HF3 := Lib.hid (FB64.step HF2.out bb)
  clear nb bb
  go_wp2_with fail
  refine (C2.out).mono ?_
  rintro e a4 ⟨vB, rfl, nB, bB⟩
  have HA := Lib.hid (HA.out.below bB)
  have HB := Lib.hid nB
  have hf4 := FB64.step HF3.out bB
  have HF4 := Lib.hid hf4
  clear nB bB
  obtain ⟨c0, c1, c2, c3, c4, c5, c6⟩ := hf4
  clear c5 c6
  have C3 := Lib.hid (CM.out _ _ _ HA.out HB.out)
  go_wp2_with fail
  refine (C3.out).mono ?_
  rintro e a5 ⟨rfl, rfl⟩
  have HD : Hid (FB64 w a4.drew ∧ NatAt a4.drew vA a ∧ NatAt a4.drew vB b) := Lib.hid ⟨FB64.drew HF4.out, HA.out.drew, HB.out.drew⟩
  go_wp2_with fail
  go_region_held3 (fun w' => FB64 w w' ∧ NatAt w' vA a ∧ NatAt w' vB b) (first | assumption | exact HD.out) (first | (go_at_call 36; (first | with_reducible refine (SX.out _).mono ?_ | with_reducible refine (SY.out _).mono ?_); rintro e w1 ⟨rfl, hb⟩; have hs := add_held64 (w := w) (va := vA) (vb := vB) (by assumption) hb; clear hb))
  have HE := Lib.hid hs
  go_wp2_with fail
  have HD2 : Hid (FB64 w w1.drew ∧ NatAt w1.drew vA a ∧ NatAt w1.drew vB b) := Lib.hid ⟨FB64.drew HE.out.1, HE.out.2.1.drew, HE.out.2.2.drew⟩
  clear hs
  go_region_held3 (fun w' => FB64 w w' ∧ NatAt w' vA a ∧ NatAt w' vB b) (first | assumption | exact HD2.out) (first | (go_at_call 36; (with_reducible refine (SX.out _).mono ?_); rintro e w2 ⟨rfl, hb⟩; have hs := add_held64 (w := w) (va := vA) (vb := vB) (by assumption) hb; clear hb) | (go_at_call 60; obtain ⟨_, nA, nB⟩ := (show FB64 w _ ∧ NatAt _ vA a ∧ NatAt _ vB b by assumption); (with_reducible refine (natSub 100 (by omega) nA nB KA.out (Nat.le_of_lt HC.out)).mono ?_); rintro e a6 ⟨vN, rfl, nN, bN⟩; have hs := add_held64 (w := w) (va := vA) (vb := vB) (by assumption) bN; clear bN nA nB) | (go_at_call 59; (with_reducible refine (one_any _).mono ?_); rintro e a7 ⟨vO, rfl, nO, bO⟩; have nN := nN.below bO; have hs := add_held64 (w := w) (va := vA) (vb := vB) (by assumption) bO; clear bO) | (go_at_call 57; (with_reducible refine (RR.out _ _ _ nN nO KN.out).mono ?_); rintro e a8 ⟨rfl, bR⟩; have hs := add_held64 (w := w) (va := vA) (vb := vB) (by assumption) bR; clear bR))
  go_wp2_with fail
  go_ret2
  exact ⟨rfl, FB64.below (And.left hs)⟩
set_option maxRecDepth 100000 in
set_option maxHeartbeats 4000000 in
theorem faddlelt64_w (x y : Nat) (w : World) (hx : x < 18446744073709551616) (hy : y < 18446744073709551616) (nx : isNaN64 x = false) (ix : isInf64 x = false) (ny : isNaN64 y = false) (iy : isInf64 y = false) (ho : se64 x ≤ se64 y) (hs : neg64 x ≠ neg64 y) (hc : val64 x < val64 y) : Calls Try.prog 33 #[.agg #[.int .i64 53, .int .i64 52, .int .i64 (-1074), .int .u64 2047, .int .u64 9223372036854775808], .int .u64 (x : Int), .int .u64 (y : Int)] w (RetB (.tuple #[.int .u64 (((addf64 x y) : Nat) : Int), .bool true]) w) := by
  have SX := fun w => fneg64_any x w hx
  have SY := fun w => fneg64_any y w hy
  have NX := fun w => fnan64_any x w hx
  have NY := fun w => fnan64_any y w hy
  have IX := fun w => finf64_any x w hx
  have IY := fun w => finf64_any y w hy
  have MX := fun w => fsize64_any x w hx
  have MY := fun w => fsize64_any y w hy
  have HSa := Lib.hid (FB64.start0 w)
  rw [nx] at NX
  rw [ix] at IX
  rw [ny] at NY
  rw [iy] at IY
  have b1 := sm_lt64 x
  have b2 := sm_lt64 y
  have s1 := se_lt64 x
  have s2 := se_lt64 y
  have v1 := val_sm64 x
  have v2 := val_sm64 y
  obtain ⟨a, ha, ha2, ka⟩ : ∃ a, a = sm64 x * 2 ^ 0 ∧ val64 x = a * 2 ^ se64 x ∧ a < 2 ^ (32 * 100) := add_sz v1 (by omega) (by omega) (by omega)
  obtain ⟨b, hb, hb2, kb⟩ : ∃ b, b = sm64 y * 2 ^ (se64 y - se64 x) ∧ val64 y = b * 2 ^ se64 x ∧ b < 2 ^ (32 * 100) := add_sz v2 (by omega) (by omega) (by omega)
  have er := addf_diff64 (fun h => hs h.symm) hc
  rw [addf_comm64, er, ha2, hb2, ← Nat.sub_mul]
  have hcmp : a < b := by
    rw [ha2, hb2] at hc; exact Nat.lt_of_mul_lt_mul_right hc
  have CM := fun (w : World) (va vb : Value) (h1 : NatAt w va a) (h2 : NatAt w vb b) => natCmp 100 (by omega) h1 h2 ka kb
  rw [cmpI_lt hcmp] at CM
  have RR := fun (w : World) (va vb : Value) => add_round64 w (neg64 y) va vb (b - a) (se64 x) (100 + 1) (by omega) (by omega) (by omega)
  have kn := kn_sub (b := a) kb
  generalize rd64 (neg64 y) ((b - a) * 2 ^ se64 x) 1 = R at *
  have SH1 := fun (w : World) (va : Value) (h1 : NatAt w va (sm64 x)) => natShl (s := 0) 100 (by omega) h1 (lt_100 (by omega)) (by omega)
  have SH2 := fun (w : World) (va : Value) (h1 : NatAt w va (sm64 y)) => natShl (s := (se64 y - se64 x)) 100 (by omega) h1 (lt_100 (by omega)) (by omega)
  rw [← ha] at SH1
  rw [← hb] at SH2
  have t1 : -1074 + (se64 x : Int) ≤ -1074 + (se64 y : Int) := by omega
  have d1 : -1074 + (se64 x : Int) - (-1074 + (se64 x : Int)) = ((0 : Nat) : Int) := by omega
  have d2 : -1074 + (se64 y : Int) - (-1074 + (se64 x : Int)) = ((se64 y - se64 x : Nat) : Int) := by omega
  have q2 : se64 y - se64 x < 2047 := by omega
  generalize se64 y - se64 x = dd at *
  have lx : sm64 x < 18446744073709551616 := by omega
  have ly : sm64 y < 18446744073709551616 := by omega
  have hns : neg64 y = !neg64 x := bool_ne hs
  rw [hns] at SY
  rw [hns] at RR
  have LX := Lib.hid lx
  have LY := Lib.hid ly
  clear lx ly v1 v2 ha hb ha2 hb2 nx ix ny iy hs hc hns er
  generalize sm64 x = mx at *
  generalize sm64 y = my at *
  generalize se64 x = dx at *
  generalize se64 y = dy at *
  generalize neg64 x = sx at *
  have SX := Lib.hid SX
  have SY := Lib.hid SY
  have NX := Lib.hid NX
  have NY := Lib.hid NY
  have IX := Lib.hid IX
  have IY := Lib.hid IY
  have MX := Lib.hid MX
  have MY := Lib.hid MY
  have CM := Lib.hid CM
  have SH1 := Lib.hid SH1
  have SH2 := Lib.hid SH2
  have RR := Lib.hid RR
  have KA := Lib.hid ka
  have KB := Lib.hid kb
  have HC := Lib.hid hcmp
  have KN := Lib.hid kn
  clear hx hy ka kb hcmp ho kn
  go_enter Try.func33, Try.ntmps33
  go_wp2_with fail
  go_wp2_with fail
  refine (NX.out _).mono ?_
  rintro e v1 ⟨rfl, hb⟩
  have hs := FB64.step HSa.out hb
  have HS1 := Lib.hid hs
  clear hb
  obtain ⟨c0, c1, c2, c3, c4, c5, c6⟩ := hs
  clear c5 c6
  go_wp2_with fail
  refine (NY.out _).mono ?_
  rintro e v2 ⟨rfl, hb⟩
  have hs := FB64.step HS1.out hb
  have HS2 := Lib.hid hs
  clear hb c0 c1 c2 c3 c4
  obtain ⟨c0, c1, c2, c3, c4, c5, c6⟩ := hs
  clear c5 c6
  go_wp2_with fail
  refine (IX.out _).mono ?_
  rintro e v3 ⟨rfl, hb⟩
  have hs := FB64.step HS2.out hb
  have HS3 := Lib.hid hs
  clear hb c0 c1 c2 c3 c4
  obtain ⟨c0, c1, c2, c3, c4, c5, c6⟩ := hs
  clear c5 c6
  go_wp2_with fail
  refine (IX.out _).mono ?_
  rintro e v4 ⟨rfl, hb⟩
  have hs := FB64.step HS3.out hb
  have HS4 := Lib.hid hs
  clear hb c0 c1 c2 c3 c4
  obtain ⟨c0, c1, c2, c3, c4, c5, c6⟩ := hs
  clear c5 c6
  go_wp2_with fail
  refine (IY.out _).mono ?_
  rintro e v5 ⟨rfl, hb⟩
  have hs := FB64.step HS4.out hb
  have HS5 := Lib.hid hs
  clear hb c0 c1 c2 c3 c4
  obtain ⟨c0, c1, c2, c3, c4, c5, c6⟩ := hs
  clear c5 c6
  go_wp2_with fail
  refine (MX.out _).mono ?_
  rintro e v6 ⟨rfl, hb⟩
  have hs := FB64.step HS5.out hb
  have HS6 := Lib.hid hs
  clear hb c0 c1 c2 c3 c4
  obtain ⟨c0, c1, c2, c3, c4, c5, c6⟩ := hs
  clear c5 c6
  go_wp2_with fail
  refine (MY.out _).mono ?_
  rintro e v7 ⟨rfl, hb⟩
  have hs := FB64.step HS6.out hb
  have HS7 := Lib.hid hs
  clear hb c0 c1 c2 c3 c4
  obtain ⟨c0, c1, c2, c3, c4, c5, c6⟩ := hs
  clear c5 c6
  have HF0 := HS7
  clear c0 c1 c2 c3 c4
  go_wp2_with fail
  refine (natOf_any _ mx LX.out).mono ?_
  rintro e a1 ⟨va, rfl, na, ba⟩
  have C1 := Lib.hid (SH1.out _ _ na)
  have HF1 := Lib.hid (FB64.step HF0.out ba)
  clear na ba
  go_wp2_with fail
  refine (C1.out).mono ?_
  rintro e a2 ⟨vA, rfl, nA, bA⟩
  have HA := Lib.hid nA
  have HF2 := Lib.hid (FB64.step HF1.out bA)
  clear nA bA
  go_wp2_with fail
  refine (natOf_any _ my LY.out).mono ?_
  rintro e a3 ⟨vb, rfl, nb, bb⟩
  have C2 := Lib.hid (SH2.out _ _ nb)
  have HA := Lib.hid (HA.out.below bb)
  have HF3 := Lib.hid (FB64.step HF2.out bb)
  clear nb bb
  go_wp2_with fail
  refine (C2.out).mono ?_
  rintro e a4 ⟨vB, rfl, nB, bB⟩
  have HA := Lib.hid (HA.out.below bB)
  have HB := Lib.hid nB
  have hf4 := FB64.step HF3.out bB
  have HF4 := Lib.hid hf4
  clear nB bB
  obtain ⟨c0, c1, c2, c3, c4, c5, c6⟩ := hf4
  clear c5 c6
  have C3 := Lib.hid (CM.out _ _ _ HA.out HB.out)
  go_wp2_with fail
  refine (C3.out).mono ?_
  rintro e a5 ⟨rfl, rfl⟩
  have HD : Hid (FB64 w a4.drew ∧ NatAt a4.drew vA a ∧ NatAt a4.drew vB b) := Lib.hid ⟨FB64.drew HF4.out, HA.out.drew, HB.out.drew⟩
  go_wp2_with fail
  go_region_held3 (fun w' => FB64 w w' ∧ NatAt w' vA a ∧ NatAt w' vB b) (first | assumption | exact HD.out) (first | (go_at_call 36; (first | with_reducible refine (SX.out _).mono ?_ | with_reducible refine (SY.out _).mono ?_); rintro e w1 ⟨rfl, hb⟩; have hs := add_held64 (w := w) (va := vA) (vb := vB) (by assumption) hb; clear hb))
  have HE := Lib.hid hs
  go_wp2_with fail
  have HD2 : Hid (FB64 w w1.drew ∧ NatAt w1.drew vA a ∧ NatAt w1.drew vB b) := Lib.hid ⟨FB64.drew HE.out.1, HE.out.2.1.drew, HE.out.2.2.drew⟩
  clear hs
  go_region_held3 (fun w' => FB64 w w' ∧ NatAt w' vA a ∧ NatAt w' vB b) (first | assumption | exact HD2.out) (first | (go_at_call 36; (with_reducible refine (SY.out _).mono ?_); rintro e w2 ⟨rfl, hb⟩; have hs := add_held64 (w := w) (va := vA) (vb := vB) (by assumption) hb; clear hb) | (go_at_call 60; obtain ⟨_, nA, nB⟩ := (show FB64 w _ ∧ NatAt _ vA a ∧ NatAt _ vB b by assumption); (with_reducible refine (natSub 100 (by omega) nB nA KB.out (Nat.le_of_lt HC.out)).mono ?_); rintro e a6 ⟨vN, rfl, nN, bN⟩; have hs := add_held64 (w := w) (va := vA) (vb := vB) (by assumption) bN; clear bN nA nB) | (go_at_call 59; (with_reducible refine (one_any _).mono ?_); rintro e a7 ⟨vO, rfl, nO, bO⟩; have nN := nN.below bO; have hs := add_held64 (w := w) (va := vA) (vb := vB) (by assumption) bO; clear bO) | (go_at_call 57; (with_reducible refine (RR.out _ _ _ nN nO KN.out).mono ?_); rintro e a8 ⟨rfl, bR⟩; have hs := add_held64 (w := w) (va := vA) (vb := vB) (by assumption) bR; clear bR))
  go_wp2_with fail
  go_ret2
  exact ⟨rfl, FB64.below (And.left hs)⟩
set_option maxRecDepth 100000 in
set_option maxHeartbeats 4000000 in
theorem faddgtsame64_w (x y : Nat) (w : World) (hx : x < 18446744073709551616) (hy : y < 18446744073709551616) (nx : isNaN64 x = false) (ix : isInf64 x = false) (ny : isNaN64 y = false) (iy : isInf64 y = false) (ho : se64 y < se64 x) (hs : neg64 x = neg64 y) : Calls Try.prog 33 #[.agg #[.int .i64 53, .int .i64 52, .int .i64 (-1074), .int .u64 2047, .int .u64 9223372036854775808], .int .u64 (x : Int), .int .u64 (y : Int)] w (RetB (.tuple #[.int .u64 (((addf64 x y) : Nat) : Int), .bool true]) w) := by
  have SX := fun w => fneg64_any x w hx
  have SY := fun w => fneg64_any y w hy
  have NX := fun w => fnan64_any x w hx
  have NY := fun w => fnan64_any y w hy
  have IX := fun w => finf64_any x w hx
  have IY := fun w => finf64_any y w hy
  have MX := fun w => fsize64_any x w hx
  have MY := fun w => fsize64_any y w hy
  have HSa := Lib.hid (FB64.start0 w)
  rw [nx] at NX
  rw [ix] at IX
  rw [ny] at NY
  rw [iy] at IY
  have b1 := sm_lt64 x
  have b2 := sm_lt64 y
  have s1 := se_lt64 x
  have s2 := se_lt64 y
  have v1 := val_sm64 x
  have v2 := val_sm64 y
  obtain ⟨a, ha, ha2, ka⟩ : ∃ a, a = sm64 x * 2 ^ (se64 x - se64 y) ∧ val64 x = a * 2 ^ se64 y ∧ a < 2 ^ (32 * 100) := add_sz v1 (by omega) (by omega) (by omega)
  obtain ⟨b, hb, hb2, kb⟩ : ∃ b, b = sm64 y * 2 ^ 0 ∧ val64 y = b * 2 ^ se64 y ∧ b < 2 ^ (32 * 100) := add_sz v2 (by omega) (by omega) (by omega)
  have er : addf64 x y = rd64 (neg64 x) (val64 x + val64 y) 1 := addf_same064 hs
  rw [er, ha2, hb2, ← Nat.add_mul]
  have hcmp : True := by
    trivial
  have CM := fun (w : World) (va vb : Value) (h1 : NatAt w va a) (h2 : NatAt w vb b) => natCmp 100 (by omega) h1 h2 ka kb
  generalize cmpI a b = cc at CM
  have RR := fun (w : World) (va vb : Value) => add_round64 w (neg64 x) va vb (a + b) (se64 y) (100 + 1) (by omega) (by omega) (by omega)
  have kn := kn_add ka kb
  generalize rd64 (neg64 x) ((a + b) * 2 ^ se64 y) 1 = R at *
  have SH1 := fun (w : World) (va : Value) (h1 : NatAt w va (sm64 x)) => natShl (s := (se64 x - se64 y)) 100 (by omega) h1 (lt_100 (by omega)) (by omega)
  have SH2 := fun (w : World) (va : Value) (h1 : NatAt w va (sm64 y)) => natShl (s := 0) 100 (by omega) h1 (lt_100 (by omega)) (by omega)
  rw [← ha] at SH1
  rw [← hb] at SH2
  have t1 : -1074 + (se64 y : Int) < -1074 + (se64 x : Int) := by omega
  have d1 : -1074 + (se64 y : Int) - (-1074 + (se64 y : Int)) = ((0 : Nat) : Int) := by omega
  have d2 : -1074 + (se64 x : Int) - (-1074 + (se64 y : Int)) = ((se64 x - se64 y : Nat) : Int) := by omega
  have q2 : se64 x - se64 y < 2047 := by omega
  generalize se64 x - se64 y = dd at *
  have lx : sm64 x < 18446744073709551616 := by omega
  have ly : sm64 y < 18446744073709551616 := by omega
  rw [← hs] at SY
  have LX := Lib.hid lx
  have LY := Lib.hid ly
  clear lx ly v1 v2 ha hb ha2 hb2 nx ix ny iy hs er
  generalize sm64 x = mx at *
  generalize sm64 y = my at *
  generalize se64 x = dx at *
  generalize se64 y = dy at *
  generalize neg64 x = sx at *
  have SX := Lib.hid SX
  have SY := Lib.hid SY
  have NX := Lib.hid NX
  have NY := Lib.hid NY
  have IX := Lib.hid IX
  have IY := Lib.hid IY
  have MX := Lib.hid MX
  have MY := Lib.hid MY
  have CM := Lib.hid CM
  have SH1 := Lib.hid SH1
  have SH2 := Lib.hid SH2
  have RR := Lib.hid RR
  have KA := Lib.hid ka
  have KB := Lib.hid kb
  have HC := Lib.hid hcmp
  have KN := Lib.hid kn
  clear hx hy ka kb hcmp ho kn
  go_enter Try.func33, Try.ntmps33
  go_wp2_with fail
  go_wp2_with fail
  refine (NX.out _).mono ?_
  rintro e v1 ⟨rfl, hb⟩
  have hs := FB64.step HSa.out hb
  have HS1 := Lib.hid hs
  clear hb
  obtain ⟨c0, c1, c2, c3, c4, c5, c6⟩ := hs
  clear c5 c6
  go_wp2_with fail
  refine (NY.out _).mono ?_
  rintro e v2 ⟨rfl, hb⟩
  have hs := FB64.step HS1.out hb
  have HS2 := Lib.hid hs
  clear hb c0 c1 c2 c3 c4
  obtain ⟨c0, c1, c2, c3, c4, c5, c6⟩ := hs
  clear c5 c6
  go_wp2_with fail
  refine (IX.out _).mono ?_
  rintro e v3 ⟨rfl, hb⟩
  have hs := FB64.step HS2.out hb
  have HS3 := Lib.hid hs
  clear hb c0 c1 c2 c3 c4
  obtain ⟨c0, c1, c2, c3, c4, c5, c6⟩ := hs
  clear c5 c6
  go_wp2_with fail
  refine (IX.out _).mono ?_
  rintro e v4 ⟨rfl, hb⟩
  have hs := FB64.step HS3.out hb
  have HS4 := Lib.hid hs
  clear hb c0 c1 c2 c3 c4
  obtain ⟨c0, c1, c2, c3, c4, c5, c6⟩ := hs
  clear c5 c6
  go_wp2_with fail
  refine (IY.out _).mono ?_
  rintro e v5 ⟨rfl, hb⟩
  have hs := FB64.step HS4.out hb
  have HS5 := Lib.hid hs
  clear hb c0 c1 c2 c3 c4
  obtain ⟨c0, c1, c2, c3, c4, c5, c6⟩ := hs
  clear c5 c6
  go_wp2_with fail
  refine (MX.out _).mono ?_
  rintro e v6 ⟨rfl, hb⟩
  have hs := FB64.step HS5.out hb
  have HS6 := Lib.hid hs
  clear hb c0 c1 c2 c3 c4
  obtain ⟨c0, c1, c2, c3, c4, c5, c6⟩ := hs
  clear c5 c6
  go_wp2_with fail
  refine (MY.out _).mono ?_
  rintro e v7 ⟨rfl, hb⟩
  have hs := FB64.step HS6.out hb
  have HS7 := Lib.hid hs
  clear hb c0 c1 c2 c3 c4
  obtain ⟨c0, c1, c2, c3, c4, c5, c6⟩ := hs
  clear c5 c6
  have HF0 := HS7
  clear c0 c1 c2 c3 c4
  go_wp2_with fail
  refine (natOf_any _ mx LX.out).mono ?_
  rintro e a1 ⟨va, rfl, na, ba⟩
  have C1 := Lib.hid (SH1.out _ _ na)
  have HF1 := Lib.hid (FB64.step HF0.out ba)
  clear na ba
  go_wp2_with fail
  refine (C1.out).mono ?_
  rintro e a2 ⟨vA, rfl, nA, bA⟩
  have HA := Lib.hid nA
  have HF2 := Lib.hid (FB64.step HF1.out bA)
  clear nA bA
  go_wp2_with fail
  refine (natOf_any _ my LY.out).mono ?_
  rintro e a3 ⟨vb, rfl, nb, bb⟩
  have C2 := Lib.hid (SH2.out _ _ nb)
  have HA := Lib.hid (HA.out.below bb)
  have HF3 := Lib.hid (FB64.step HF2.out bb)
  clear nb bb
  go_wp2_with fail
  refine (C2.out).mono ?_
  rintro e a4 ⟨vB, rfl, nB, bB⟩
  have HA := Lib.hid (HA.out.below bB)
  have HB := Lib.hid nB
  have hf4 := FB64.step HF3.out bB
  have HF4 := Lib.hid hf4
  clear nB bB
  obtain ⟨c0, c1, c2, c3, c4, c5, c6⟩ := hf4
  clear c5 c6
  have C3 := Lib.hid (CM.out _ _ _ HA.out HB.out)
  go_wp2_with fail
  refine (C3.out).mono ?_
  rintro e a5 ⟨rfl, rfl⟩
  have HD : Hid (FB64 w a4.drew ∧ NatAt a4.drew vA a ∧ NatAt a4.drew vB b) := Lib.hid ⟨FB64.drew HF4.out, HA.out.drew, HB.out.drew⟩
  go_wp2_with fail
  go_region_held3 (fun w' => FB64 w w' ∧ NatAt w' vA a ∧ NatAt w' vB b) (first | assumption | exact HD.out) (first | (go_at_call 36; (first | with_reducible refine (SX.out _).mono ?_ | with_reducible refine (SY.out _).mono ?_); rintro e w1 ⟨rfl, hb⟩; have hs := add_held64 (w := w) (va := vA) (vb := vB) (by assumption) hb; clear hb))
  have HE := Lib.hid hs
  go_wp2_with fail
  have HD2 : Hid (FB64 w w1.drew ∧ NatAt w1.drew vA a ∧ NatAt w1.drew vB b) := Lib.hid ⟨FB64.drew HE.out.1, HE.out.2.1.drew, HE.out.2.2.drew⟩
  clear hs
  go_region_held3 (fun w' => FB64 w w' ∧ NatAt w' vA a ∧ NatAt w' vB b) (first | assumption | exact HD2.out) (first | (go_at_call 36; (with_reducible refine (SX.out _).mono ?_); rintro e w2 ⟨rfl, hb⟩; have hs := add_held64 (w := w) (va := vA) (vb := vB) (by assumption) hb; clear hb) | (go_at_call 58; obtain ⟨_, nA, nB⟩ := (show FB64 w _ ∧ NatAt _ vA a ∧ NatAt _ vB b by assumption); (with_reducible refine (natAdd 100 (by omega) nA nB KA.out KB.out).mono ?_); rintro e a6 ⟨vN, rfl, nN, bN⟩; have hs := add_held64 (w := w) (va := vA) (vb := vB) (by assumption) bN; clear bN nA nB) | (go_at_call 59; (with_reducible refine (one_any _).mono ?_); rintro e a7 ⟨vO, rfl, nO, bO⟩; have nN := nN.below bO; have hs := add_held64 (w := w) (va := vA) (vb := vB) (by assumption) bO; clear bO) | (go_at_call 57; (with_reducible refine (RR.out _ _ _ nN nO KN.out).mono ?_); rintro e a8 ⟨rfl, bR⟩; have hs := add_held64 (w := w) (va := vA) (vb := vB) (by assumption) bR; clear bR))
  go_wp2_with fail
  go_ret2
  exact ⟨rfl, FB64.below (And.left hs)⟩
set_option maxRecDepth 100000 in
set_option maxHeartbeats 4000000 in
theorem faddgteq64_w (x y : Nat) (w : World) (hx : x < 18446744073709551616) (hy : y < 18446744073709551616) (nx : isNaN64 x = false) (ix : isInf64 x = false) (ny : isNaN64 y = false) (iy : isInf64 y = false) (ho : se64 y < se64 x) (hs : neg64 x ≠ neg64 y) (hc : val64 x = val64 y) : Calls Try.prog 33 #[.agg #[.int .i64 53, .int .i64 52, .int .i64 (-1074), .int .u64 2047, .int .u64 9223372036854775808], .int .u64 (x : Int), .int .u64 (y : Int)] w (RetB (.tuple #[.int .u64 (((addf64 x y) : Nat) : Int), .bool true]) w) := by
  have SX := fun w => fneg64_any x w hx
  have SY := fun w => fneg64_any y w hy
  have NX := fun w => fnan64_any x w hx
  have NY := fun w => fnan64_any y w hy
  have IX := fun w => finf64_any x w hx
  have IY := fun w => finf64_any y w hy
  have MX := fun w => fsize64_any x w hx
  have MY := fun w => fsize64_any y w hy
  have HSa := Lib.hid (FB64.start0 w)
  rw [nx] at NX
  rw [ix] at IX
  rw [ny] at NY
  rw [iy] at IY
  have b1 := sm_lt64 x
  have b2 := sm_lt64 y
  have s1 := se_lt64 x
  have s2 := se_lt64 y
  have v1 := val_sm64 x
  have v2 := val_sm64 y
  obtain ⟨a, ha, ha2, ka⟩ : ∃ a, a = sm64 x * 2 ^ (se64 x - se64 y) ∧ val64 x = a * 2 ^ se64 y ∧ a < 2 ^ (32 * 100) := add_sz v1 (by omega) (by omega) (by omega)
  obtain ⟨b, hb, hb2, kb⟩ : ∃ b, b = sm64 y * 2 ^ 0 ∧ val64 y = b * 2 ^ se64 y ∧ b < 2 ^ (32 * 100) := add_sz v2 (by omega) (by omega) (by omega)
  rw [addf_eq64 hs hc]
  have hcmp : a = b := by
    rw [ha2, hb2] at hc; exact Nat.eq_of_mul_eq_mul_right (two_pow_pos _) hc
  have CM := fun (w : World) (va vb : Value) (h1 : NatAt w va a) (h2 : NatAt w vb b) => natCmp 100 (by omega) h1 h2 ka kb
  rw [show cmpI a b = 0 by rw [hcmp]; exact cmpI_self b] at CM
  have SH1 := fun (w : World) (va : Value) (h1 : NatAt w va (sm64 x)) => natShl (s := (se64 x - se64 y)) 100 (by omega) h1 (lt_100 (by omega)) (by omega)
  have SH2 := fun (w : World) (va : Value) (h1 : NatAt w va (sm64 y)) => natShl (s := 0) 100 (by omega) h1 (lt_100 (by omega)) (by omega)
  rw [← ha] at SH1
  rw [← hb] at SH2
  have t1 : -1074 + (se64 y : Int) < -1074 + (se64 x : Int) := by omega
  have d1 : -1074 + (se64 y : Int) - (-1074 + (se64 y : Int)) = ((0 : Nat) : Int) := by omega
  have d2 : -1074 + (se64 x : Int) - (-1074 + (se64 y : Int)) = ((se64 x - se64 y : Nat) : Int) := by omega
  have q2 : se64 x - se64 y < 2047 := by omega
  generalize se64 x - se64 y = dd at *
  have lx : sm64 x < 18446744073709551616 := by omega
  have ly : sm64 y < 18446744073709551616 := by omega
  have hns : neg64 y = !neg64 x := bool_ne hs
  rw [hns] at SY
  have LX := Lib.hid lx
  have LY := Lib.hid ly
  clear lx ly v1 v2 ha hb ha2 hb2 nx ix ny iy hs hc hns
  generalize sm64 x = mx at *
  generalize sm64 y = my at *
  generalize se64 x = dx at *
  generalize se64 y = dy at *
  generalize neg64 x = sx at *
  have SX := Lib.hid SX
  have SY := Lib.hid SY
  have NX := Lib.hid NX
  have NY := Lib.hid NY
  have IX := Lib.hid IX
  have IY := Lib.hid IY
  have MX := Lib.hid MX
  have MY := Lib.hid MY
  have CM := Lib.hid CM
  have SH1 := Lib.hid SH1
  have SH2 := Lib.hid SH2
  have KA := Lib.hid ka
  have KB := Lib.hid kb
  have HC := Lib.hid hcmp
  clear hx hy ka kb hcmp ho
  go_enter Try.func33, Try.ntmps33
  go_wp2_with fail
  go_wp2_with fail
  refine (NX.out _).mono ?_
  rintro e v1 ⟨rfl, hb⟩
  have hs := FB64.step HSa.out hb
  have HS1 := Lib.hid hs
  clear hb
  obtain ⟨c0, c1, c2, c3, c4, c5, c6⟩ := hs
  clear c5 c6
  go_wp2_with fail
  refine (NY.out _).mono ?_
  rintro e v2 ⟨rfl, hb⟩
  have hs := FB64.step HS1.out hb
  have HS2 := Lib.hid hs
  clear hb c0 c1 c2 c3 c4
  obtain ⟨c0, c1, c2, c3, c4, c5, c6⟩ := hs
  clear c5 c6
  go_wp2_with fail
  refine (IX.out _).mono ?_
  rintro e v3 ⟨rfl, hb⟩
  have hs := FB64.step HS2.out hb
  have HS3 := Lib.hid hs
  clear hb c0 c1 c2 c3 c4
  obtain ⟨c0, c1, c2, c3, c4, c5, c6⟩ := hs
  clear c5 c6
  go_wp2_with fail
  refine (IX.out _).mono ?_
  rintro e v4 ⟨rfl, hb⟩
  have hs := FB64.step HS3.out hb
  have HS4 := Lib.hid hs
  clear hb c0 c1 c2 c3 c4
  obtain ⟨c0, c1, c2, c3, c4, c5, c6⟩ := hs
  clear c5 c6
  go_wp2_with fail
  refine (IY.out _).mono ?_
  rintro e v5 ⟨rfl, hb⟩
  have hs := FB64.step HS4.out hb
  have HS5 := Lib.hid hs
  clear hb c0 c1 c2 c3 c4
  obtain ⟨c0, c1, c2, c3, c4, c5, c6⟩ := hs
  clear c5 c6
  go_wp2_with fail
  refine (MX.out _).mono ?_
  rintro e v6 ⟨rfl, hb⟩
  have hs := FB64.step HS5.out hb
  have HS6 := Lib.hid hs
  clear hb c0 c1 c2 c3 c4
  obtain ⟨c0, c1, c2, c3, c4, c5, c6⟩ := hs
  clear c5 c6
  go_wp2_with fail
  refine (MY.out _).mono ?_
  rintro e v7 ⟨rfl, hb⟩
  have hs := FB64.step HS6.out hb
  have HS7 := Lib.hid hs
  clear hb c0 c1 c2 c3 c4
  obtain ⟨c0, c1, c2, c3, c4, c5, c6⟩ := hs
  clear c5 c6
  have HF0 := HS7
  clear c0 c1 c2 c3 c4
  go_wp2_with fail
  refine (natOf_any _ mx LX.out).mono ?_
  rintro e a1 ⟨va, rfl, na, ba⟩
  have C1 := Lib.hid (SH1.out _ _ na)
  have HF1 := Lib.hid (FB64.step HF0.out ba)
  clear na ba
  go_wp2_with fail
  refine (C1.out).mono ?_
  rintro e a2 ⟨vA, rfl, nA, bA⟩
  have HA := Lib.hid nA
  have HF2 := Lib.hid (FB64.step HF1.out bA)
  clear nA bA
  go_wp2_with fail
  refine (natOf_any _ my LY.out).mono ?_
  rintro e a3 ⟨vb, rfl, nb, bb⟩
  have C2 := Lib.hid (SH2.out _ _ nb)
  have HA := Lib.hid (HA.out.below bb)
  have HF3 := Lib.hid (FB64.step HF2.out bb)
  clear nb bb
  go_wp2_with fail
  refine (C2.out).mono ?_
  rintro e a4 ⟨vB, rfl, nB, bB⟩
  have HA := Lib.hid (HA.out.below bB)
  have HB := Lib.hid nB
  have hf4 := FB64.step HF3.out bB
  have HF4 := Lib.hid hf4
  clear nB bB
  obtain ⟨c0, c1, c2, c3, c4, c5, c6⟩ := hf4
  clear c5 c6
  have C3 := Lib.hid (CM.out _ _ _ HA.out HB.out)
  go_wp2_with fail
  refine (C3.out).mono ?_
  rintro e a5 ⟨rfl, rfl⟩
  have HD : Hid (FB64 w a4.drew ∧ NatAt a4.drew vA a ∧ NatAt a4.drew vB b) := Lib.hid ⟨FB64.drew HF4.out, HA.out.drew, HB.out.drew⟩
  go_wp2_with fail
  go_region_held3 (fun w' => FB64 w w' ∧ NatAt w' vA a ∧ NatAt w' vB b) (first | assumption | exact HD.out) (first | (go_at_call 36; (first | with_reducible refine (SX.out _).mono ?_ | with_reducible refine (SY.out _).mono ?_); rintro e w1 ⟨rfl, hb⟩; have hs := add_held64 (w := w) (va := vA) (vb := vB) (by assumption) hb; clear hb))
  have HE := Lib.hid hs
  go_wp2_with fail
  go_ret2
  exact ⟨rfl, FB64.below HE.out.1⟩
set_option maxRecDepth 100000 in
set_option maxHeartbeats 4000000 in
theorem faddgtgt64_w (x y : Nat) (w : World) (hx : x < 18446744073709551616) (hy : y < 18446744073709551616) (nx : isNaN64 x = false) (ix : isInf64 x = false) (ny : isNaN64 y = false) (iy : isInf64 y = false) (ho : se64 y < se64 x) (hs : neg64 x ≠ neg64 y) (hc : val64 y < val64 x) : Calls Try.prog 33 #[.agg #[.int .i64 53, .int .i64 52, .int .i64 (-1074), .int .u64 2047, .int .u64 9223372036854775808], .int .u64 (x : Int), .int .u64 (y : Int)] w (RetB (.tuple #[.int .u64 (((addf64 x y) : Nat) : Int), .bool true]) w) := by
  have SX := fun w => fneg64_any x w hx
  have SY := fun w => fneg64_any y w hy
  have NX := fun w => fnan64_any x w hx
  have NY := fun w => fnan64_any y w hy
  have IX := fun w => finf64_any x w hx
  have IY := fun w => finf64_any y w hy
  have MX := fun w => fsize64_any x w hx
  have MY := fun w => fsize64_any y w hy
  have HSa := Lib.hid (FB64.start0 w)
  rw [nx] at NX
  rw [ix] at IX
  rw [ny] at NY
  rw [iy] at IY
  have b1 := sm_lt64 x
  have b2 := sm_lt64 y
  have s1 := se_lt64 x
  have s2 := se_lt64 y
  have v1 := val_sm64 x
  have v2 := val_sm64 y
  obtain ⟨a, ha, ha2, ka⟩ : ∃ a, a = sm64 x * 2 ^ (se64 x - se64 y) ∧ val64 x = a * 2 ^ se64 y ∧ a < 2 ^ (32 * 100) := add_sz v1 (by omega) (by omega) (by omega)
  obtain ⟨b, hb, hb2, kb⟩ : ∃ b, b = sm64 y * 2 ^ 0 ∧ val64 y = b * 2 ^ se64 y ∧ b < 2 ^ (32 * 100) := add_sz v2 (by omega) (by omega) (by omega)
  have er := addf_diff64 hs hc
  rw [er, ha2, hb2, ← Nat.sub_mul]
  have hcmp : b < a := by
    rw [ha2, hb2] at hc; exact Nat.lt_of_mul_lt_mul_right hc
  have CM := fun (w : World) (va vb : Value) (h1 : NatAt w va a) (h2 : NatAt w vb b) => natCmp 100 (by omega) h1 h2 ka kb
  have hcg : cmpI a b = 1 := by unfold cmpI; rw [if_neg (by omega), if_neg (by omega)]
  rw [hcg] at CM
  have RR := fun (w : World) (va vb : Value) => add_round64 w (neg64 x) va vb (a - b) (se64 y) (100 + 1) (by omega) (by omega) (by omega)
  have kn := kn_sub (b := b) ka
  generalize rd64 (neg64 x) ((a - b) * 2 ^ se64 y) 1 = R at *
  have SH1 := fun (w : World) (va : Value) (h1 : NatAt w va (sm64 x)) => natShl (s := (se64 x - se64 y)) 100 (by omega) h1 (lt_100 (by omega)) (by omega)
  have SH2 := fun (w : World) (va : Value) (h1 : NatAt w va (sm64 y)) => natShl (s := 0) 100 (by omega) h1 (lt_100 (by omega)) (by omega)
  rw [← ha] at SH1
  rw [← hb] at SH2
  have t1 : -1074 + (se64 y : Int) < -1074 + (se64 x : Int) := by omega
  have d1 : -1074 + (se64 y : Int) - (-1074 + (se64 y : Int)) = ((0 : Nat) : Int) := by omega
  have d2 : -1074 + (se64 x : Int) - (-1074 + (se64 y : Int)) = ((se64 x - se64 y : Nat) : Int) := by omega
  have q2 : se64 x - se64 y < 2047 := by omega
  generalize se64 x - se64 y = dd at *
  have lx : sm64 x < 18446744073709551616 := by omega
  have ly : sm64 y < 18446744073709551616 := by omega
  have hns : neg64 y = !neg64 x := bool_ne hs
  rw [hns] at SY
  have LX := Lib.hid lx
  have LY := Lib.hid ly
  clear lx ly v1 v2 ha hb ha2 hb2 nx ix ny iy hs hc hns er
  generalize sm64 x = mx at *
  generalize sm64 y = my at *
  generalize se64 x = dx at *
  generalize se64 y = dy at *
  generalize neg64 x = sx at *
  have SX := Lib.hid SX
  have SY := Lib.hid SY
  have NX := Lib.hid NX
  have NY := Lib.hid NY
  have IX := Lib.hid IX
  have IY := Lib.hid IY
  have MX := Lib.hid MX
  have MY := Lib.hid MY
  have CM := Lib.hid CM
  have SH1 := Lib.hid SH1
  have SH2 := Lib.hid SH2
  have RR := Lib.hid RR
  have KA := Lib.hid ka
  have KB := Lib.hid kb
  have HC := Lib.hid hcmp
  have KN := Lib.hid kn
  clear hx hy ka kb hcmp ho kn
  go_enter Try.func33, Try.ntmps33
  go_wp2_with fail
  go_wp2_with fail
  refine (NX.out _).mono ?_
  rintro e v1 ⟨rfl, hb⟩
  have hs := FB64.step HSa.out hb
  have HS1 := Lib.hid hs
  clear hb
  obtain ⟨c0, c1, c2, c3, c4, c5, c6⟩ := hs
  clear c5 c6
  go_wp2_with fail
  refine (NY.out _).mono ?_
  rintro e v2 ⟨rfl, hb⟩
  have hs := FB64.step HS1.out hb
  have HS2 := Lib.hid hs
  clear hb c0 c1 c2 c3 c4
  obtain ⟨c0, c1, c2, c3, c4, c5, c6⟩ := hs
  clear c5 c6
  go_wp2_with fail
  refine (IX.out _).mono ?_
  rintro e v3 ⟨rfl, hb⟩
  have hs := FB64.step HS2.out hb
  have HS3 := Lib.hid hs
  clear hb c0 c1 c2 c3 c4
  obtain ⟨c0, c1, c2, c3, c4, c5, c6⟩ := hs
  clear c5 c6
  go_wp2_with fail
  refine (IX.out _).mono ?_
  rintro e v4 ⟨rfl, hb⟩
  have hs := FB64.step HS3.out hb
  have HS4 := Lib.hid hs
  clear hb c0 c1 c2 c3 c4
  obtain ⟨c0, c1, c2, c3, c4, c5, c6⟩ := hs
  clear c5 c6
  go_wp2_with fail
  refine (IY.out _).mono ?_
  rintro e v5 ⟨rfl, hb⟩
  have hs := FB64.step HS4.out hb
  have HS5 := Lib.hid hs
  clear hb c0 c1 c2 c3 c4
  obtain ⟨c0, c1, c2, c3, c4, c5, c6⟩ := hs
  clear c5 c6
  go_wp2_with fail
  refine (MX.out _).mono ?_
  rintro e v6 ⟨rfl, hb⟩
  have hs := FB64.step HS5.out hb
  have HS6 := Lib.hid hs
  clear hb c0 c1 c2 c3 c4
  obtain ⟨c0, c1, c2, c3, c4, c5, c6⟩ := hs
  clear c5 c6
  go_wp2_with fail
  refine (MY.out _).mono ?_
  rintro e v7 ⟨rfl, hb⟩
  have hs := FB64.step HS6.out hb
  have HS7 := Lib.hid hs
  clear hb c0 c1 c2 c3 c4
  obtain ⟨c0, c1, c2, c3, c4, c5, c6⟩ := hs
  clear c5 c6
  have HF0 := HS7
  clear c0 c1 c2 c3 c4
  go_wp2_with fail
  refine (natOf_any _ mx LX.out).mono ?_
  rintro e a1 ⟨va, rfl, na, ba⟩
  have C1 := Lib.hid (SH1.out _ _ na)
  have HF1 := Lib.hid (FB64.step HF0.out ba)
  clear na ba
  go_wp2_with fail
  refine (C1.out).mono ?_
  rintro e a2 ⟨vA, rfl, nA, bA⟩
  have HA := Lib.hid nA
  have HF2 := Lib.hid (FB64.step HF1.out bA)
  clear nA bA
  go_wp2_with fail
  refine (natOf_any _ my LY.out).mono ?_
  rintro e a3 ⟨vb, rfl, nb, bb⟩
  have C2 := Lib.hid (SH2.out _ _ nb)
  have HA := Lib.hid (HA.out.below bb)
  have HF3 := Lib.hid (FB64.step HF2.out bb)
  clear nb bb
  go_wp2_with fail
  refine (C2.out).mono ?_
  rintro e a4 ⟨vB, rfl, nB, bB⟩
  have HA := Lib.hid (HA.out.below bB)
  have HB := Lib.hid nB
  have hf4 := FB64.step HF3.out bB
  have HF4 := Lib.hid hf4
  clear nB bB
  obtain ⟨c0, c1, c2, c3, c4, c5, c6⟩ := hf4
  clear c5 c6
  have C3 := Lib.hid (CM.out _ _ _ HA.out HB.out)
  go_wp2_with fail
  refine (C3.out).mono ?_
  rintro e a5 ⟨rfl, rfl⟩
  have HD : Hid (FB64 w a4.drew ∧ NatAt a4.drew vA a ∧ NatAt a4.drew vB b) := Lib.hid ⟨FB64.drew HF4.out, HA.out.drew, HB.out.drew⟩
  go_wp2_with fail
  go_region_held3 (fun w' => FB64 w w' ∧ NatAt w' vA a ∧ NatAt w' vB b) (first | assumption | exact HD.out) (first | (go_at_call 36; (first | with_reducible refine (SX.out _).mono ?_ | with_reducible refine (SY.out _).mono ?_); rintro e w1 ⟨rfl, hb⟩; have hs := add_held64 (w := w) (va := vA) (vb := vB) (by assumption) hb; clear hb))
  have HE := Lib.hid hs
  go_wp2_with fail
  have HD2 : Hid (FB64 w w1.drew ∧ NatAt w1.drew vA a ∧ NatAt w1.drew vB b) := Lib.hid ⟨FB64.drew HE.out.1, HE.out.2.1.drew, HE.out.2.2.drew⟩
  clear hs
  go_region_held3 (fun w' => FB64 w w' ∧ NatAt w' vA a ∧ NatAt w' vB b) (first | assumption | exact HD2.out) (first | (go_at_call 36; (with_reducible refine (SX.out _).mono ?_); rintro e w2 ⟨rfl, hb⟩; have hs := add_held64 (w := w) (va := vA) (vb := vB) (by assumption) hb; clear hb) | (go_at_call 60; obtain ⟨_, nA, nB⟩ := (show FB64 w _ ∧ NatAt _ vA a ∧ NatAt _ vB b by assumption); (with_reducible refine (natSub 100 (by omega) nA nB KA.out (Nat.le_of_lt HC.out)).mono ?_); rintro e a6 ⟨vN, rfl, nN, bN⟩; have hs := add_held64 (w := w) (va := vA) (vb := vB) (by assumption) bN; clear bN nA nB) | (go_at_call 59; (with_reducible refine (one_any _).mono ?_); rintro e a7 ⟨vO, rfl, nO, bO⟩; have nN := nN.below bO; have hs := add_held64 (w := w) (va := vA) (vb := vB) (by assumption) bO; clear bO) | (go_at_call 57; (with_reducible refine (RR.out _ _ _ nN nO KN.out).mono ?_); rintro e a8 ⟨rfl, bR⟩; have hs := add_held64 (w := w) (va := vA) (vb := vB) (by assumption) bR; clear bR))
  go_wp2_with fail
  go_ret2
  exact ⟨rfl, FB64.below (And.left hs)⟩
set_option maxRecDepth 100000 in
set_option maxHeartbeats 4000000 in
theorem faddgtlt64_w (x y : Nat) (w : World) (hx : x < 18446744073709551616) (hy : y < 18446744073709551616) (nx : isNaN64 x = false) (ix : isInf64 x = false) (ny : isNaN64 y = false) (iy : isInf64 y = false) (ho : se64 y < se64 x) (hs : neg64 x ≠ neg64 y) (hc : val64 x < val64 y) : Calls Try.prog 33 #[.agg #[.int .i64 53, .int .i64 52, .int .i64 (-1074), .int .u64 2047, .int .u64 9223372036854775808], .int .u64 (x : Int), .int .u64 (y : Int)] w (RetB (.tuple #[.int .u64 (((addf64 x y) : Nat) : Int), .bool true]) w) := by
  have SX := fun w => fneg64_any x w hx
  have SY := fun w => fneg64_any y w hy
  have NX := fun w => fnan64_any x w hx
  have NY := fun w => fnan64_any y w hy
  have IX := fun w => finf64_any x w hx
  have IY := fun w => finf64_any y w hy
  have MX := fun w => fsize64_any x w hx
  have MY := fun w => fsize64_any y w hy
  have HSa := Lib.hid (FB64.start0 w)
  rw [nx] at NX
  rw [ix] at IX
  rw [ny] at NY
  rw [iy] at IY
  have b1 := sm_lt64 x
  have b2 := sm_lt64 y
  have s1 := se_lt64 x
  have s2 := se_lt64 y
  have v1 := val_sm64 x
  have v2 := val_sm64 y
  obtain ⟨a, ha, ha2, ka⟩ : ∃ a, a = sm64 x * 2 ^ (se64 x - se64 y) ∧ val64 x = a * 2 ^ se64 y ∧ a < 2 ^ (32 * 100) := add_sz v1 (by omega) (by omega) (by omega)
  obtain ⟨b, hb, hb2, kb⟩ : ∃ b, b = sm64 y * 2 ^ 0 ∧ val64 y = b * 2 ^ se64 y ∧ b < 2 ^ (32 * 100) := add_sz v2 (by omega) (by omega) (by omega)
  have er := addf_diff64 (fun h => hs h.symm) hc
  rw [addf_comm64, er, ha2, hb2, ← Nat.sub_mul]
  have hcmp : a < b := by
    rw [ha2, hb2] at hc; exact Nat.lt_of_mul_lt_mul_right hc
  have CM := fun (w : World) (va vb : Value) (h1 : NatAt w va a) (h2 : NatAt w vb b) => natCmp 100 (by omega) h1 h2 ka kb
  rw [cmpI_lt hcmp] at CM
  have RR := fun (w : World) (va vb : Value) => add_round64 w (neg64 y) va vb (b - a) (se64 y) (100 + 1) (by omega) (by omega) (by omega)
  have kn := kn_sub (b := a) kb
  generalize rd64 (neg64 y) ((b - a) * 2 ^ se64 y) 1 = R at *
  have SH1 := fun (w : World) (va : Value) (h1 : NatAt w va (sm64 x)) => natShl (s := (se64 x - se64 y)) 100 (by omega) h1 (lt_100 (by omega)) (by omega)
  have SH2 := fun (w : World) (va : Value) (h1 : NatAt w va (sm64 y)) => natShl (s := 0) 100 (by omega) h1 (lt_100 (by omega)) (by omega)
  rw [← ha] at SH1
  rw [← hb] at SH2
  have t1 : -1074 + (se64 y : Int) < -1074 + (se64 x : Int) := by omega
  have d1 : -1074 + (se64 y : Int) - (-1074 + (se64 y : Int)) = ((0 : Nat) : Int) := by omega
  have d2 : -1074 + (se64 x : Int) - (-1074 + (se64 y : Int)) = ((se64 x - se64 y : Nat) : Int) := by omega
  have q2 : se64 x - se64 y < 2047 := by omega
  generalize se64 x - se64 y = dd at *
  have lx : sm64 x < 18446744073709551616 := by omega
  have ly : sm64 y < 18446744073709551616 := by omega
  have hns : neg64 y = !neg64 x := bool_ne hs
  rw [hns] at SY
  rw [hns] at RR
  have LX := Lib.hid lx
  have LY := Lib.hid ly
  clear lx ly v1 v2 ha hb ha2 hb2 nx ix ny iy hs hc hns er
  generalize sm64 x = mx at *
  generalize sm64 y = my at *
  generalize se64 x = dx at *
  generalize se64 y = dy at *
  generalize neg64 x = sx at *
  have SX := Lib.hid SX
  have SY := Lib.hid SY
  have NX := Lib.hid NX
  have NY := Lib.hid NY
  have IX := Lib.hid IX
  have IY := Lib.hid IY
  have MX := Lib.hid MX
  have MY := Lib.hid MY
  have CM := Lib.hid CM
  have SH1 := Lib.hid SH1
  have SH2 := Lib.hid SH2
  have RR := Lib.hid RR
  have KA := Lib.hid ka
  have KB := Lib.hid kb
  have HC := Lib.hid hcmp
  have KN := Lib.hid kn
  clear hx hy ka kb hcmp ho kn
  go_enter Try.func33, Try.ntmps33
  go_wp2_with fail
  go_wp2_with fail
  refine (NX.out _).mono ?_
  rintro e v1 ⟨rfl, hb⟩
  have hs := FB64.step HSa.out hb
  have HS1 := Lib.hid hs
  clear hb
  obtain ⟨c0, c1, c2, c3, c4, c5, c6⟩ := hs
  clear c5 c6
  go_wp2_with fail
  refine (NY.out _).mono ?_
  rintro e v2 ⟨rfl, hb⟩
  have hs := FB64.step HS1.out hb
  have HS2 := Lib.hid hs
  clear hb c0 c1 c2 c3 c4
  obtain ⟨c0, c1, c2, c3, c4, c5, c6⟩ := hs
  clear c5 c6
  go_wp2_with fail
  refine (IX.out _).mono ?_
  rintro e v3 ⟨rfl, hb⟩
  have hs := FB64.step HS2.out hb
  have HS3 := Lib.hid hs
  clear hb c0 c1 c2 c3 c4
  obtain ⟨c0, c1, c2, c3, c4, c5, c6⟩ := hs
  clear c5 c6
  go_wp2_with fail
  refine (IX.out _).mono ?_
  rintro e v4 ⟨rfl, hb⟩
  have hs := FB64.step HS3.out hb
  have HS4 := Lib.hid hs
  clear hb c0 c1 c2 c3 c4
  obtain ⟨c0, c1, c2, c3, c4, c5, c6⟩ := hs
  clear c5 c6
  go_wp2_with fail
  refine (IY.out _).mono ?_
  rintro e v5 ⟨rfl, hb⟩
  have hs := FB64.step HS4.out hb
  have HS5 := Lib.hid hs
  clear hb c0 c1 c2 c3 c4
  obtain ⟨c0, c1, c2, c3, c4, c5, c6⟩ := hs
  clear c5 c6
  go_wp2_with fail
  refine (MX.out _).mono ?_
  rintro e v6 ⟨rfl, hb⟩
  have hs := FB64.step HS5.out hb
  have HS6 := Lib.hid hs
  clear hb c0 c1 c2 c3 c4
  obtain ⟨c0, c1, c2, c3, c4, c5, c6⟩ := hs
  clear c5 c6
  go_wp2_with fail
  refine (MY.out _).mono ?_
  rintro e v7 ⟨rfl, hb⟩
  have hs := FB64.step HS6.out hb
  have HS7 := Lib.hid hs
  clear hb c0 c1 c2 c3 c4
  obtain ⟨c0, c1, c2, c3, c4, c5, c6⟩ := hs
  clear c5 c6
  have HF0 := HS7
  clear c0 c1 c2 c3 c4
  go_wp2_with fail
  refine (natOf_any _ mx LX.out).mono ?_
  rintro e a1 ⟨va, rfl, na, ba⟩
  have C1 := Lib.hid (SH1.out _ _ na)
  have HF1 := Lib.hid (FB64.step HF0.out ba)
  clear na ba
  go_wp2_with fail
  refine (C1.out).mono ?_
  rintro e a2 ⟨vA, rfl, nA, bA⟩
  have HA := Lib.hid nA
  have HF2 := Lib.hid (FB64.step HF1.out bA)
  clear nA bA
  go_wp2_with fail
  refine (natOf_any _ my LY.out).mono ?_
  rintro e a3 ⟨vb, rfl, nb, bb⟩
  have C2 := Lib.hid (SH2.out _ _ nb)
  have HA := Lib.hid (HA.out.below bb)
  have HF3 := Lib.hid (FB64.step HF2.out bb)
  clear nb bb
  go_wp2_with fail
  refine (C2.out).mono ?_
  rintro e a4 ⟨vB, rfl, nB, bB⟩
  have HA := Lib.hid (HA.out.below bB)
  have HB := Lib.hid nB
  have hf4 := FB64.step HF3.out bB
  have HF4 := Lib.hid hf4
  clear nB bB
  obtain ⟨c0, c1, c2, c3, c4, c5, c6⟩ := hf4
  clear c5 c6
  have C3 := Lib.hid (CM.out _ _ _ HA.out HB.out)
  go_wp2_with fail
  refine (C3.out).mono ?_
  rintro e a5 ⟨rfl, rfl⟩
  have HD : Hid (FB64 w a4.drew ∧ NatAt a4.drew vA a ∧ NatAt a4.drew vB b) := Lib.hid ⟨FB64.drew HF4.out, HA.out.drew, HB.out.drew⟩
  go_wp2_with fail
  go_region_held3 (fun w' => FB64 w w' ∧ NatAt w' vA a ∧ NatAt w' vB b) (first | assumption | exact HD.out) (first | (go_at_call 36; (first | with_reducible refine (SX.out _).mono ?_ | with_reducible refine (SY.out _).mono ?_); rintro e w1 ⟨rfl, hb⟩; have hs := add_held64 (w := w) (va := vA) (vb := vB) (by assumption) hb; clear hb))
  have HE := Lib.hid hs
  go_wp2_with fail
  have HD2 : Hid (FB64 w w1.drew ∧ NatAt w1.drew vA a ∧ NatAt w1.drew vB b) := Lib.hid ⟨FB64.drew HE.out.1, HE.out.2.1.drew, HE.out.2.2.drew⟩
  clear hs
  go_region_held3 (fun w' => FB64 w w' ∧ NatAt w' vA a ∧ NatAt w' vB b) (first | assumption | exact HD2.out) (first | (go_at_call 36; (with_reducible refine (SY.out _).mono ?_); rintro e w2 ⟨rfl, hb⟩; have hs := add_held64 (w := w) (va := vA) (vb := vB) (by assumption) hb; clear hb) | (go_at_call 60; obtain ⟨_, nA, nB⟩ := (show FB64 w _ ∧ NatAt _ vA a ∧ NatAt _ vB b by assumption); (with_reducible refine (natSub 100 (by omega) nB nA KB.out (Nat.le_of_lt HC.out)).mono ?_); rintro e a6 ⟨vN, rfl, nN, bN⟩; have hs := add_held64 (w := w) (va := vA) (vb := vB) (by assumption) bN; clear bN nA nB) | (go_at_call 59; (with_reducible refine (one_any _).mono ?_); rintro e a7 ⟨vO, rfl, nO, bO⟩; have nN := nN.below bO; have hs := add_held64 (w := w) (va := vA) (vb := vB) (by assumption) bO; clear bO) | (go_at_call 57; (with_reducible refine (RR.out _ _ _ nN nO KN.out).mono ?_); rintro e a8 ⟨rfl, bR⟩; have hs := add_held64 (w := w) (va := vA) (vb := vB) (by assumption) bR; clear bR))
  go_wp2_with fail
  go_ret2
  exact ⟨rfl, FB64.below (And.left hs)⟩
set_option maxRecDepth 100000 in
set_option maxHeartbeats 4000000 in
theorem faddS64_any (x y : Nat) (w : World) (hx : x < 18446744073709551616) (hy : y < 18446744073709551616) : Calls Try.prog 33 #[.agg #[.int .i64 53, .int .i64 52, .int .i64 (-1074), .int .u64 2047, .int .u64 9223372036854775808], .int .u64 (x : Int), .int .u64 (y : Int)] w (RetB (.tuple #[.int .u64 (((if nanAdd64 x y then 0 else add64 x y) : Nat) : Int), .bool (!nanAdd64 x y)]) w) := by
  have NX := fun w => fnan64_any x w hx
  have NY := fun w => fnan64_any y w hy
  have IX := fun w => finf64_any x w hx
  have IY := fun w => finf64_any y w hy
  have HSa := Lib.hid (FB64.start0 w)
  cases nx : isNaN64 x
  · cases ny : isNaN64 y
    · cases ix : isInf64 x
      · cases iy : isInf64 y
        · have e : nanAdd64 x y = false := by simp [nanAdd64, nx, ny, ix]
          have er : add64 x y = addf64 x y := add_fin64 nx ix ny iy
          rw [e, er]
          simp only [Bool.false_eq_true, if_false, Bool.not_false]
          rcases Nat.lt_or_ge (se64 y) (se64 x) with ho | ho
          · by_cases hs : neg64 x = neg64 y
            · exact faddgtsame64_w x y w hx hy nx ix ny iy ho hs
            · rcases Nat.lt_trichotomy (val64 x) (val64 y) with hc | hc | hc
              · exact faddgtlt64_w x y w hx hy nx ix ny iy ho hs hc
              · exact faddgteq64_w x y w hx hy nx ix ny iy ho hs hc
              · exact faddgtgt64_w x y w hx hy nx ix ny iy ho hs hc
          · by_cases hs : neg64 x = neg64 y
            · exact faddlesame64_w x y w hx hy nx ix ny iy ho hs
            · rcases Nat.lt_trichotomy (val64 x) (val64 y) with hc | hc | hc
              · exact faddlelt64_w x y w hx hy nx ix ny iy ho hs hc
              · exact faddleeq64_w x y w hx hy nx ix ny iy ho hs hc
              · exact faddlegt64_w x y w hx hy nx ix ny iy ho hs hc
        · skip
          have e : nanAdd64 x y = false := by simp [nanAdd64, nx, ny, ix, iy]
          rw [e]
          simp only [Bool.false_eq_true, if_false, Bool.not_false]
          rw [add_ir64 nx ny iy (.inl ix)]
          rw [nx] at NX
          rw [ny] at NY
          rw [ix] at IX
          rw [iy] at IY
          have NX := Lib.hid NX
          have NY := Lib.hid NY
          have IX := Lib.hid IX
          have IY := Lib.hid IY
          clear hx hy
          clear e nx ny ix iy
          go_enter Try.func33, Try.ntmps33
          go_wp2_with fail
          go_wp2_with fail
          refine (NX.out _).mono ?_
          rintro e v1 ⟨rfl, hb⟩
          have hs := FB64.step HSa.out hb
          have HS1 := Lib.hid hs
          clear hb
          obtain ⟨c0, c1, c2, c3, c4, c5, c6⟩ := hs
          clear c5 c6
          go_wp2_with fail
          refine (NY.out _).mono ?_
          rintro e v2 ⟨rfl, hb⟩
          have hs := FB64.step HS1.out hb
          have HS2 := Lib.hid hs
          clear hb c0 c1 c2 c3 c4
          obtain ⟨c0, c1, c2, c3, c4, c5, c6⟩ := hs
          clear c5 c6
          go_wp2_with fail
          refine (IX.out _).mono ?_
          rintro e v3 ⟨rfl, hb⟩
          have hs := FB64.step HS2.out hb
          have HS3 := Lib.hid hs
          clear hb c0 c1 c2 c3 c4
          obtain ⟨c0, c1, c2, c3, c4, c5, c6⟩ := hs
          clear c5 c6
          go_wp2_with fail
          refine (IX.out _).mono ?_
          rintro e v4 ⟨rfl, hb⟩
          have hs := FB64.step HS3.out hb
          have HS4 := Lib.hid hs
          clear hb c0 c1 c2 c3 c4
          obtain ⟨c0, c1, c2, c3, c4, c5, c6⟩ := hs
          clear c5 c6
          go_wp2_with fail
          refine (IY.out _).mono ?_
          rintro e v5 ⟨rfl, hb⟩
          have hs := FB64.step HS4.out hb
          have HS5 := Lib.hid hs
          clear hb c0 c1 c2 c3 c4
          obtain ⟨c0, c1, c2, c3, c4, c5, c6⟩ := hs
          clear c5 c6
          go_wp2_with fail
          go_ret2
          exact ⟨rfl, FB64.below HS5.out⟩
      · cases iy : isInf64 y
        · skip
          have e : nanAdd64 x y = false := by simp [nanAdd64, nx, ny, ix, iy]
          rw [e]
          simp only [Bool.false_eq_true, if_false, Bool.not_false]
          rw [add_il64 nx ny ix (.inl iy)]
          rw [nx] at NX
          rw [ny] at NY
          rw [ix] at IX
          rw [iy] at IY
          have NX := Lib.hid NX
          have NY := Lib.hid NY
          have IX := Lib.hid IX
          have IY := Lib.hid IY
          clear hx hy
          clear e nx ny ix iy
          go_enter Try.func33, Try.ntmps33
          go_wp2_with fail
          go_wp2_with fail
          refine (NX.out _).mono ?_
          rintro e v1 ⟨rfl, hb⟩
          have hs := FB64.step HSa.out hb
          have HS1 := Lib.hid hs
          clear hb
          obtain ⟨c0, c1, c2, c3, c4, c5, c6⟩ := hs
          clear c5 c6
          go_wp2_with fail
          refine (NY.out _).mono ?_
          rintro e v2 ⟨rfl, hb⟩
          have hs := FB64.step HS1.out hb
          have HS2 := Lib.hid hs
          clear hb c0 c1 c2 c3 c4
          obtain ⟨c0, c1, c2, c3, c4, c5, c6⟩ := hs
          clear c5 c6
          go_wp2_with fail
          refine (IX.out _).mono ?_
          rintro e v3 ⟨rfl, hb⟩
          have hs := FB64.step HS2.out hb
          have HS3 := Lib.hid hs
          clear hb c0 c1 c2 c3 c4
          obtain ⟨c0, c1, c2, c3, c4, c5, c6⟩ := hs
          clear c5 c6
          go_wp2_with fail
          refine (IY.out _).mono ?_
          rintro e v4 ⟨rfl, hb⟩
          have hs := FB64.step HS3.out hb
          have HS4 := Lib.hid hs
          clear hb c0 c1 c2 c3 c4
          obtain ⟨c0, c1, c2, c3, c4, c5, c6⟩ := hs
          clear c5 c6
          go_wp2_with fail
          refine (IX.out _).mono ?_
          rintro e v5 ⟨rfl, hb⟩
          have hs := FB64.step HS4.out hb
          have HS5 := Lib.hid hs
          clear hb c0 c1 c2 c3 c4
          obtain ⟨c0, c1, c2, c3, c4, c5, c6⟩ := hs
          clear c5 c6
          go_wp2_with fail
          go_ret2
          exact ⟨rfl, FB64.below HS5.out⟩
        · by_cases hxy : x = y
          · have exy : ((x : Int) != (y : Int)) = false := by simp [hxy]
            have e : nanAdd64 x y = false := by unfold nanAdd64; rw [nx, ny, ix, iy, decide_eq_false (fun h => h hxy)]; rfl
            rw [e]
            simp only [Bool.false_eq_true, if_false, Bool.not_false]
            rw [add_il64 nx ny ix (.inr hxy)]
            rw [nx] at NX
            rw [ny] at NY
            rw [ix] at IX
            rw [iy] at IY
            have NX := Lib.hid NX
            have NY := Lib.hid NY
            have IX := Lib.hid IX
            have IY := Lib.hid IY
            clear hx hy
            clear e nx ny ix iy hxy
            go_enter Try.func33, Try.ntmps33
            go_wp2_with fail
            go_wp2_with fail
            refine (NX.out _).mono ?_
            rintro e v1 ⟨rfl, hb⟩
            have hs := FB64.step HSa.out hb
            have HS1 := Lib.hid hs
            clear hb
            obtain ⟨c0, c1, c2, c3, c4, c5, c6⟩ := hs
            clear c5 c6
            go_wp2_with fail
            refine (NY.out _).mono ?_
            rintro e v2 ⟨rfl, hb⟩
            have hs := FB64.step HS1.out hb
            have HS2 := Lib.hid hs
            clear hb c0 c1 c2 c3 c4
            obtain ⟨c0, c1, c2, c3, c4, c5, c6⟩ := hs
            clear c5 c6
            go_wp2_with fail
            refine (IX.out _).mono ?_
            rintro e v3 ⟨rfl, hb⟩
            have hs := FB64.step HS2.out hb
            have HS3 := Lib.hid hs
            clear hb c0 c1 c2 c3 c4
            obtain ⟨c0, c1, c2, c3, c4, c5, c6⟩ := hs
            clear c5 c6
            go_wp2_with fail
            refine (IY.out _).mono ?_
            rintro e v4 ⟨rfl, hb⟩
            have hs := FB64.step HS3.out hb
            have HS4 := Lib.hid hs
            clear hb c0 c1 c2 c3 c4
            obtain ⟨c0, c1, c2, c3, c4, c5, c6⟩ := hs
            clear c5 c6
            go_wp2_with fail
            refine (IX.out _).mono ?_
            rintro e v5 ⟨rfl, hb⟩
            have hs := FB64.step HS4.out hb
            have HS5 := Lib.hid hs
            clear hb c0 c1 c2 c3 c4
            obtain ⟨c0, c1, c2, c3, c4, c5, c6⟩ := hs
            clear c5 c6
            go_wp2_with fail
            go_ret2
            exact ⟨rfl, FB64.below HS5.out⟩
          · have exy : ((x : Int) != (y : Int)) = true := by simp; omega
            have e : nanAdd64 x y = true := by simp [nanAdd64, nx, ny, ix, iy, hxy]
            rw [e]
            simp only [if_true, Bool.not_true]
            rw [nx] at NX
            rw [ny] at NY
            rw [ix] at IX
            rw [iy] at IY
            have NX := Lib.hid NX
            have NY := Lib.hid NY
            have IX := Lib.hid IX
            have IY := Lib.hid IY
            clear hx hy
            clear e nx ny ix iy hxy
            go_enter Try.func33, Try.ntmps33
            go_wp2_with fail
            go_wp2_with fail
            refine (NX.out _).mono ?_
            rintro e v1 ⟨rfl, hb⟩
            have hs := FB64.step HSa.out hb
            have HS1 := Lib.hid hs
            clear hb
            obtain ⟨c0, c1, c2, c3, c4, c5, c6⟩ := hs
            clear c5 c6
            go_wp2_with fail
            refine (NY.out _).mono ?_
            rintro e v2 ⟨rfl, hb⟩
            have hs := FB64.step HS1.out hb
            have HS2 := Lib.hid hs
            clear hb c0 c1 c2 c3 c4
            obtain ⟨c0, c1, c2, c3, c4, c5, c6⟩ := hs
            clear c5 c6
            go_wp2_with fail
            refine (IX.out _).mono ?_
            rintro e v3 ⟨rfl, hb⟩
            have hs := FB64.step HS2.out hb
            have HS3 := Lib.hid hs
            clear hb c0 c1 c2 c3 c4
            obtain ⟨c0, c1, c2, c3, c4, c5, c6⟩ := hs
            clear c5 c6
            go_wp2_with fail
            refine (IY.out _).mono ?_
            rintro e v4 ⟨rfl, hb⟩
            have hs := FB64.step HS3.out hb
            have HS4 := Lib.hid hs
            clear hb c0 c1 c2 c3 c4
            obtain ⟨c0, c1, c2, c3, c4, c5, c6⟩ := hs
            clear c5 c6
            go_wp2_with fail
            go_ret2
            exact ⟨rfl, FB64.below HS4.out⟩
    · have e : nanAdd64 x y = true := by simp [nanAdd64, ny]
      rw [e]
      simp only [if_true, Bool.not_true]
      rw [nx] at NX
      rw [ny] at NY
      have NX := Lib.hid NX
      have NY := Lib.hid NY
      clear hx hy IX IY
      clear e nx ny
      go_enter Try.func33, Try.ntmps33
      go_wp2_with fail
      go_wp2_with fail
      refine (NX.out _).mono ?_
      rintro e v1 ⟨rfl, hb⟩
      have hs := FB64.step HSa.out hb
      have HS1 := Lib.hid hs
      clear hb
      obtain ⟨c0, c1, c2, c3, c4, c5, c6⟩ := hs
      clear c5 c6
      go_wp2_with fail
      refine (NY.out _).mono ?_
      rintro e v2 ⟨rfl, hb⟩
      have hs := FB64.step HS1.out hb
      have HS2 := Lib.hid hs
      clear hb c0 c1 c2 c3 c4
      obtain ⟨c0, c1, c2, c3, c4, c5, c6⟩ := hs
      clear c5 c6
      go_wp2_with fail
      go_ret2
      exact ⟨rfl, FB64.below HS2.out⟩
  · have e : nanAdd64 x y = true := by simp [nanAdd64, nx]
    rw [e]
    simp only [if_true, Bool.not_true]
    rw [nx] at NX
    have NX := Lib.hid NX
    clear hx hy NY IX IY
    clear e nx
    go_enter Try.func33, Try.ntmps33
    go_wp2_with fail
    go_wp2_with fail
    refine (NX.out _).mono ?_
    rintro e v1 ⟨rfl, hb⟩
    have hs := FB64.step HSa.out hb
    have HS1 := Lib.hid hs
    clear hb
    obtain ⟨c0, c1, c2, c3, c4, c5, c6⟩ := hs
    clear c5 c6
    go_wp2_with fail
    go_ret2
    exact ⟨rfl, FB64.below HS1.out⟩

def nanAdd32 (x y : Nat) : Bool := isNaN32 x || isNaN32 y || (isInf32 x && isInf32 y && decide (x ≠ y))
set_option maxRecDepth 100000 in
set_option maxHeartbeats 4000000 in
theorem faddlesame32_w (x y : Nat) (w : World) (hx : x < 4294967296) (hy : y < 4294967296) (nx : isNaN32 x = false) (ix : isInf32 x = false) (ny : isNaN32 y = false) (iy : isInf32 y = false) (ho : se32 x ≤ se32 y) (hs : neg32 x = neg32 y) : Calls Try.prog 33 #[.agg #[.int .i64 24, .int .i64 23, .int .i64 (-149), .int .u64 255, .int .u64 2147483648], .int .u64 (x : Int), .int .u64 (y : Int)] w (RetB (.tuple #[.int .u64 (((addf32 x y) : Nat) : Int), .bool true]) w) := by
  have SX := fun w => fneg32_any x w hx
  have SY := fun w => fneg32_any y w hy
  have NX := fun w => fnan32_any x w hx
  have NY := fun w => fnan32_any y w hy
  have IX := fun w => finf32_any x w hx
  have IY := fun w => finf32_any y w hy
  have MX := fun w => fsize32_any x w hx
  have MY := fun w => fsize32_any y w hy
  have HSa := Lib.hid (FB32.start0 w)
  rw [nx] at NX
  rw [ix] at IX
  rw [ny] at NY
  rw [iy] at IY
  have b1 := sm_lt32 x
  have b2 := sm_lt32 y
  have s1 := se_lt32 x
  have s2 := se_lt32 y
  have v1 := val_sm32 x
  have v2 := val_sm32 y
  obtain ⟨a, ha, ha2, ka⟩ : ∃ a, a = sm32 x * 2 ^ 0 ∧ val32 x = a * 2 ^ se32 x ∧ a < 2 ^ (32 * 100) := add_sz v1 (by omega) (by omega) (by omega)
  obtain ⟨b, hb, hb2, kb⟩ : ∃ b, b = sm32 y * 2 ^ (se32 y - se32 x) ∧ val32 y = b * 2 ^ se32 x ∧ b < 2 ^ (32 * 100) := add_sz v2 (by omega) (by omega) (by omega)
  have er : addf32 x y = rd32 (neg32 x) (val32 x + val32 y) 1 := addf_same032 hs
  rw [er, ha2, hb2, ← Nat.add_mul]
  have hcmp : True := by
    trivial
  have CM := fun (w : World) (va vb : Value) (h1 : NatAt w va a) (h2 : NatAt w vb b) => natCmp 100 (by omega) h1 h2 ka kb
  generalize cmpI a b = cc at CM
  have RR := fun (w : World) (va vb : Value) => add_round32 w (neg32 x) va vb (a + b) (se32 x) (100 + 1) (by omega) (by omega) (by omega)
  have kn := kn_add ka kb
  generalize rd32 (neg32 x) ((a + b) * 2 ^ se32 x) 1 = R at *
  have SH1 := fun (w : World) (va : Value) (h1 : NatAt w va (sm32 x)) => natShl (s := 0) 100 (by omega) h1 (lt_100 (by omega)) (by omega)
  have SH2 := fun (w : World) (va : Value) (h1 : NatAt w va (sm32 y)) => natShl (s := (se32 y - se32 x)) 100 (by omega) h1 (lt_100 (by omega)) (by omega)
  rw [← ha] at SH1
  rw [← hb] at SH2
  have t1 : -149 + (se32 x : Int) ≤ -149 + (se32 y : Int) := by omega
  have d1 : -149 + (se32 x : Int) - (-149 + (se32 x : Int)) = ((0 : Nat) : Int) := by omega
  have d2 : -149 + (se32 y : Int) - (-149 + (se32 x : Int)) = ((se32 y - se32 x : Nat) : Int) := by omega
  have q2 : se32 y - se32 x < 255 := by omega
  generalize se32 y - se32 x = dd at *
  have lx : sm32 x < 18446744073709551616 := by omega
  have ly : sm32 y < 18446744073709551616 := by omega
  rw [← hs] at SY
  have LX := Lib.hid lx
  have LY := Lib.hid ly
  clear lx ly v1 v2 ha hb ha2 hb2 nx ix ny iy hs er
  generalize sm32 x = mx at *
  generalize sm32 y = my at *
  generalize se32 x = dx at *
  generalize se32 y = dy at *
  generalize neg32 x = sx at *
  have SX := Lib.hid SX
  have SY := Lib.hid SY
  have NX := Lib.hid NX
  have NY := Lib.hid NY
  have IX := Lib.hid IX
  have IY := Lib.hid IY
  have MX := Lib.hid MX
  have MY := Lib.hid MY
  have CM := Lib.hid CM
  have SH1 := Lib.hid SH1
  have SH2 := Lib.hid SH2
  have RR := Lib.hid RR
  have KA := Lib.hid ka
  have KB := Lib.hid kb
  have HC := Lib.hid hcmp
  have KN := Lib.hid kn
  clear hx hy ka kb hcmp ho kn
  go_enter Try.func33, Try.ntmps33
  go_wp2_with fail
  go_wp2_with fail
  refine (NX.out _).mono ?_
  rintro e v1 ⟨rfl, hb⟩
  have hs := FB32.step HSa.out hb
  have HS1 := Lib.hid hs
  clear hb
  obtain ⟨c0, c1, c2, c3, c4, c5, c6⟩ := hs
  clear c5 c6
  go_wp2_with fail
  refine (NY.out _).mono ?_
  rintro e v2 ⟨rfl, hb⟩
  have hs := FB32.step HS1.out hb
  have HS2 := Lib.hid hs
  clear hb c0 c1 c2 c3 c4
  obtain ⟨c0, c1, c2, c3, c4, c5, c6⟩ := hs
  clear c5 c6
  go_wp2_with fail
  refine (IX.out _).mono ?_
  rintro e v3 ⟨rfl, hb⟩
  have hs := FB32.step HS2.out hb
  have HS3 := Lib.hid hs
  clear hb c0 c1 c2 c3 c4
  obtain ⟨c0, c1, c2, c3, c4, c5, c6⟩ := hs
  clear c5 c6
  go_wp2_with fail
  refine (IX.out _).mono ?_
  rintro e v4 ⟨rfl, hb⟩
  have hs := FB32.step HS3.out hb
  have HS4 := Lib.hid hs
  clear hb c0 c1 c2 c3 c4
  obtain ⟨c0, c1, c2, c3, c4, c5, c6⟩ := hs
  clear c5 c6
  go_wp2_with fail
  refine (IY.out _).mono ?_
  rintro e v5 ⟨rfl, hb⟩
  have hs := FB32.step HS4.out hb
  have HS5 := Lib.hid hs
  clear hb c0 c1 c2 c3 c4
  obtain ⟨c0, c1, c2, c3, c4, c5, c6⟩ := hs
  clear c5 c6
  go_wp2_with fail
  refine (MX.out _).mono ?_
  rintro e v6 ⟨rfl, hb⟩
  have hs := FB32.step HS5.out hb
  have HS6 := Lib.hid hs
  clear hb c0 c1 c2 c3 c4
  obtain ⟨c0, c1, c2, c3, c4, c5, c6⟩ := hs
  clear c5 c6
  go_wp2_with fail
  refine (MY.out _).mono ?_
  rintro e v7 ⟨rfl, hb⟩
  have hs := FB32.step HS6.out hb
  have HS7 := Lib.hid hs
  clear hb c0 c1 c2 c3 c4
  obtain ⟨c0, c1, c2, c3, c4, c5, c6⟩ := hs
  clear c5 c6
  have HF0 := HS7
  clear c0 c1 c2 c3 c4
  go_wp2_with fail
  refine (natOf_any _ mx LX.out).mono ?_
  rintro e a1 ⟨va, rfl, na, ba⟩
  have C1 := Lib.hid (SH1.out _ _ na)
  have HF1 := Lib.hid (FB32.step HF0.out ba)
  clear na ba
  go_wp2_with fail
  refine (C1.out).mono ?_
  rintro e a2 ⟨vA, rfl, nA, bA⟩
  have HA := Lib.hid nA
  have HF2 := Lib.hid (FB32.step HF1.out bA)
  clear nA bA
  go_wp2_with fail
  refine (natOf_any _ my LY.out).mono ?_
  rintro e a3 ⟨vb, rfl, nb, bb⟩
  have C2 := Lib.hid (SH2.out _ _ nb)
  have HA := Lib.hid (HA.out.below bb)
  have HF3 := Lib.hid (FB32.step HF2.out bb)
  clear nb bb
  go_wp2_with fail
  refine (C2.out).mono ?_
  rintro e a4 ⟨vB, rfl, nB, bB⟩
  have HA := Lib.hid (HA.out.below bB)
  have HB := Lib.hid nB
  have hf4 := FB32.step HF3.out bB
  have HF4 := Lib.hid hf4
  clear nB bB
  obtain ⟨c0, c1, c2, c3, c4, c5, c6⟩ := hf4
  clear c5 c6
  have C3 := Lib.hid (CM.out _ _ _ HA.out HB.out)
  go_wp2_with fail
  refine (C3.out).mono ?_
  rintro e a5 ⟨rfl, rfl⟩
  have HD : Hid (FB32 w a4.drew ∧ NatAt a4.drew vA a ∧ NatAt a4.drew vB b) := Lib.hid ⟨FB32.drew HF4.out, HA.out.drew, HB.out.drew⟩
  go_wp2_with fail
  go_region_held3 (fun w' => FB32 w w' ∧ NatAt w' vA a ∧ NatAt w' vB b) (first | assumption | exact HD.out) (first | (go_at_call 36; (first | with_reducible refine (SX.out _).mono ?_ | with_reducible refine (SY.out _).mono ?_); rintro e w1 ⟨rfl, hb⟩; have hs := add_held32 (w := w) (va := vA) (vb := vB) (by assumption) hb; clear hb))
  have HE := Lib.hid hs
  go_wp2_with fail
  have HD2 : Hid (FB32 w w1.drew ∧ NatAt w1.drew vA a ∧ NatAt w1.drew vB b) := Lib.hid ⟨FB32.drew HE.out.1, HE.out.2.1.drew, HE.out.2.2.drew⟩
  clear hs
  go_region_held3 (fun w' => FB32 w w' ∧ NatAt w' vA a ∧ NatAt w' vB b) (first | assumption | exact HD2.out) (first | (go_at_call 36; (with_reducible refine (SX.out _).mono ?_); rintro e w2 ⟨rfl, hb⟩; have hs := add_held32 (w := w) (va := vA) (vb := vB) (by assumption) hb; clear hb) | (go_at_call 58; obtain ⟨_, nA, nB⟩ := (show FB32 w _ ∧ NatAt _ vA a ∧ NatAt _ vB b by assumption); (with_reducible refine (natAdd 100 (by omega) nA nB KA.out KB.out).mono ?_); rintro e a6 ⟨vN, rfl, nN, bN⟩; have hs := add_held32 (w := w) (va := vA) (vb := vB) (by assumption) bN; clear bN nA nB) | (go_at_call 59; (with_reducible refine (one_any _).mono ?_); rintro e a7 ⟨vO, rfl, nO, bO⟩; have nN := nN.below bO; have hs := add_held32 (w := w) (va := vA) (vb := vB) (by assumption) bO; clear bO) | (go_at_call 57; (with_reducible refine (RR.out _ _ _ nN nO KN.out).mono ?_); rintro e a8 ⟨rfl, bR⟩; have hs := add_held32 (w := w) (va := vA) (vb := vB) (by assumption) bR; clear bR))
  go_wp2_with fail
  go_ret2
  exact ⟨rfl, FB32.below (And.left hs)⟩
set_option maxRecDepth 100000 in
set_option maxHeartbeats 4000000 in
theorem faddleeq32_w (x y : Nat) (w : World) (hx : x < 4294967296) (hy : y < 4294967296) (nx : isNaN32 x = false) (ix : isInf32 x = false) (ny : isNaN32 y = false) (iy : isInf32 y = false) (ho : se32 x ≤ se32 y) (hs : neg32 x ≠ neg32 y) (hc : val32 x = val32 y) : Calls Try.prog 33 #[.agg #[.int .i64 24, .int .i64 23, .int .i64 (-149), .int .u64 255, .int .u64 2147483648], .int .u64 (x : Int), .int .u64 (y : Int)] w (RetB (.tuple #[.int .u64 (((addf32 x y) : Nat) : Int), .bool true]) w) := by
  have SX := fun w => fneg32_any x w hx
  have SY := fun w => fneg32_any y w hy
  have NX := fun w => fnan32_any x w hx
  have NY := fun w => fnan32_any y w hy
  have IX := fun w => finf32_any x w hx
  have IY := fun w => finf32_any y w hy
  have MX := fun w => fsize32_any x w hx
  have MY := fun w => fsize32_any y w hy
  have HSa := Lib.hid (FB32.start0 w)
  rw [nx] at NX
  rw [ix] at IX
  rw [ny] at NY
  rw [iy] at IY
  have b1 := sm_lt32 x
  have b2 := sm_lt32 y
  have s1 := se_lt32 x
  have s2 := se_lt32 y
  have v1 := val_sm32 x
  have v2 := val_sm32 y
  obtain ⟨a, ha, ha2, ka⟩ : ∃ a, a = sm32 x * 2 ^ 0 ∧ val32 x = a * 2 ^ se32 x ∧ a < 2 ^ (32 * 100) := add_sz v1 (by omega) (by omega) (by omega)
  obtain ⟨b, hb, hb2, kb⟩ : ∃ b, b = sm32 y * 2 ^ (se32 y - se32 x) ∧ val32 y = b * 2 ^ se32 x ∧ b < 2 ^ (32 * 100) := add_sz v2 (by omega) (by omega) (by omega)
  rw [addf_eq32 hs hc]
  have hcmp : a = b := by
    rw [ha2, hb2] at hc; exact Nat.eq_of_mul_eq_mul_right (two_pow_pos _) hc
  have CM := fun (w : World) (va vb : Value) (h1 : NatAt w va a) (h2 : NatAt w vb b) => natCmp 100 (by omega) h1 h2 ka kb
  rw [show cmpI a b = 0 by rw [hcmp]; exact cmpI_self b] at CM
  have SH1 := fun (w : World) (va : Value) (h1 : NatAt w va (sm32 x)) => natShl (s := 0) 100 (by omega) h1 (lt_100 (by omega)) (by omega)
  have SH2 := fun (w : World) (va : Value) (h1 : NatAt w va (sm32 y)) => natShl (s := (se32 y - se32 x)) 100 (by omega) h1 (lt_100 (by omega)) (by omega)
  rw [← ha] at SH1
  rw [← hb] at SH2
  have t1 : -149 + (se32 x : Int) ≤ -149 + (se32 y : Int) := by omega
  have d1 : -149 + (se32 x : Int) - (-149 + (se32 x : Int)) = ((0 : Nat) : Int) := by omega
  have d2 : -149 + (se32 y : Int) - (-149 + (se32 x : Int)) = ((se32 y - se32 x : Nat) : Int) := by omega
  have q2 : se32 y - se32 x < 255 := by omega
  generalize se32 y - se32 x = dd at *
  have lx : sm32 x < 18446744073709551616 := by omega
  have ly : sm32 y < 18446744073709551616 := by omega
  have hns : neg32 y = !neg32 x := bool_ne hs
  rw [hns] at SY
  have LX := Lib.hid lx
  have LY := Lib.hid ly
  clear lx ly v1 v2 ha hb ha2 hb2 nx ix ny iy hs hc hns
  generalize sm32 x = mx at *
  generalize sm32 y = my at *
  generalize se32 x = dx at *
  generalize se32 y = dy at *
  generalize neg32 x = sx at *
  have SX := Lib.hid SX
  have SY := Lib.hid SY
  have NX := Lib.hid NX
  have NY := Lib.hid NY
  have IX := Lib.hid IX
  have IY := Lib.hid IY
  have MX := Lib.hid MX
  have MY := Lib.hid MY
  have CM := Lib.hid CM
  have SH1 := Lib.hid SH1
  have SH2 := Lib.hid SH2
  have KA := Lib.hid ka
  have KB := Lib.hid kb
  have HC := Lib.hid hcmp
  clear hx hy ka kb hcmp ho
  go_enter Try.func33, Try.ntmps33
  go_wp2_with fail
  go_wp2_with fail
  refine (NX.out _).mono ?_
  rintro e v1 ⟨rfl, hb⟩
  have hs := FB32.step HSa.out hb
  have HS1 := Lib.hid hs
  clear hb
  obtain ⟨c0, c1, c2, c3, c4, c5, c6⟩ := hs
  clear c5 c6
  go_wp2_with fail
  refine (NY.out _).mono ?_
  rintro e v2 ⟨rfl, hb⟩
  have hs := FB32.step HS1.out hb
  have HS2 := Lib.hid hs
  clear hb c0 c1 c2 c3 c4
  obtain ⟨c0, c1, c2, c3, c4, c5, c6⟩ := hs
  clear c5 c6
  go_wp2_with fail
  refine (IX.out _).mono ?_
  rintro e v3 ⟨rfl, hb⟩
  have hs := FB32.step HS2.out hb
  have HS3 := Lib.hid hs
  clear hb c0 c1 c2 c3 c4
  obtain ⟨c0, c1, c2, c3, c4, c5, c6⟩ := hs
  clear c5 c6
  go_wp2_with fail
  refine (IX.out _).mono ?_
  rintro e v4 ⟨rfl, hb⟩
  have hs := FB32.step HS3.out hb
  have HS4 := Lib.hid hs
  clear hb c0 c1 c2 c3 c4
  obtain ⟨c0, c1, c2, c3, c4, c5, c6⟩ := hs
  clear c5 c6
  go_wp2_with fail
  refine (IY.out _).mono ?_
  rintro e v5 ⟨rfl, hb⟩
  have hs := FB32.step HS4.out hb
  have HS5 := Lib.hid hs
  clear hb c0 c1 c2 c3 c4
  obtain ⟨c0, c1, c2, c3, c4, c5, c6⟩ := hs
  clear c5 c6
  go_wp2_with fail
  refine (MX.out _).mono ?_
  rintro e v6 ⟨rfl, hb⟩
  have hs := FB32.step HS5.out hb
  have HS6 := Lib.hid hs
  clear hb c0 c1 c2 c3 c4
  obtain ⟨c0, c1, c2, c3, c4, c5, c6⟩ := hs
  clear c5 c6
  go_wp2_with fail
  refine (MY.out _).mono ?_
  rintro e v7 ⟨rfl, hb⟩
  have hs := FB32.step HS6.out hb
  have HS7 := Lib.hid hs
  clear hb c0 c1 c2 c3 c4
  obtain ⟨c0, c1, c2, c3, c4, c5, c6⟩ := hs
  clear c5 c6
  have HF0 := HS7
  clear c0 c1 c2 c3 c4
  go_wp2_with fail
  refine (natOf_any _ mx LX.out).mono ?_
  rintro e a1 ⟨va, rfl, na, ba⟩
  have C1 := Lib.hid (SH1.out _ _ na)
  have HF1 := Lib.hid (FB32.step HF0.out ba)
  clear na ba
  go_wp2_with fail
  refine (C1.out).mono ?_
  rintro e a2 ⟨vA, rfl, nA, bA⟩
  have HA := Lib.hid nA
  have HF2 := Lib.hid (FB32.step HF1.out bA)
  clear nA bA
  go_wp2_with fail
  refine (natOf_any _ my LY.out).mono ?_
  rintro e a3 ⟨vb, rfl, nb, bb⟩
  have C2 := Lib.hid (SH2.out _ _ nb)
  have HA := Lib.hid (HA.out.below bb)
  have HF3 := Lib.hid (FB32.step HF2.out bb)
  clear nb bb
  go_wp2_with fail
  refine (C2.out).mono ?_
  rintro e a4 ⟨vB, rfl, nB, bB⟩
  have HA := Lib.hid (HA.out.below bB)
  have HB := Lib.hid nB
  have hf4 := FB32.step HF3.out bB
  have HF4 := Lib.hid hf4
  clear nB bB
  obtain ⟨c0, c1, c2, c3, c4, c5, c6⟩ := hf4
  clear c5 c6
  have C3 := Lib.hid (CM.out _ _ _ HA.out HB.out)
  go_wp2_with fail
  refine (C3.out).mono ?_
  rintro e a5 ⟨rfl, rfl⟩
  have HD : Hid (FB32 w a4.drew ∧ NatAt a4.drew vA a ∧ NatAt a4.drew vB b) := Lib.hid ⟨FB32.drew HF4.out, HA.out.drew, HB.out.drew⟩
  go_wp2_with fail
  go_region_held3 (fun w' => FB32 w w' ∧ NatAt w' vA a ∧ NatAt w' vB b) (first | assumption | exact HD.out) (first | (go_at_call 36; (first | with_reducible refine (SX.out _).mono ?_ | with_reducible refine (SY.out _).mono ?_); rintro e w1 ⟨rfl, hb⟩; have hs := add_held32 (w := w) (va := vA) (vb := vB) (by assumption) hb; clear hb))
  have HE := Lib.hid hs
  go_wp2_with fail
  go_ret2
  exact ⟨rfl, FB32.below HE.out.1⟩
set_option maxRecDepth 100000 in
set_option maxHeartbeats 4000000 in
theorem faddlegt32_w (x y : Nat) (w : World) (hx : x < 4294967296) (hy : y < 4294967296) (nx : isNaN32 x = false) (ix : isInf32 x = false) (ny : isNaN32 y = false) (iy : isInf32 y = false) (ho : se32 x ≤ se32 y) (hs : neg32 x ≠ neg32 y) (hc : val32 y < val32 x) : Calls Try.prog 33 #[.agg #[.int .i64 24, .int .i64 23, .int .i64 (-149), .int .u64 255, .int .u64 2147483648], .int .u64 (x : Int), .int .u64 (y : Int)] w (RetB (.tuple #[.int .u64 (((addf32 x y) : Nat) : Int), .bool true]) w) := by
  have SX := fun w => fneg32_any x w hx
  have SY := fun w => fneg32_any y w hy
  have NX := fun w => fnan32_any x w hx
  have NY := fun w => fnan32_any y w hy
  have IX := fun w => finf32_any x w hx
  have IY := fun w => finf32_any y w hy
  have MX := fun w => fsize32_any x w hx
  have MY := fun w => fsize32_any y w hy
  have HSa := Lib.hid (FB32.start0 w)
  rw [nx] at NX
  rw [ix] at IX
  rw [ny] at NY
  rw [iy] at IY
  have b1 := sm_lt32 x
  have b2 := sm_lt32 y
  have s1 := se_lt32 x
  have s2 := se_lt32 y
  have v1 := val_sm32 x
  have v2 := val_sm32 y
  obtain ⟨a, ha, ha2, ka⟩ : ∃ a, a = sm32 x * 2 ^ 0 ∧ val32 x = a * 2 ^ se32 x ∧ a < 2 ^ (32 * 100) := add_sz v1 (by omega) (by omega) (by omega)
  obtain ⟨b, hb, hb2, kb⟩ : ∃ b, b = sm32 y * 2 ^ (se32 y - se32 x) ∧ val32 y = b * 2 ^ se32 x ∧ b < 2 ^ (32 * 100) := add_sz v2 (by omega) (by omega) (by omega)
  have er := addf_diff32 hs hc
  rw [er, ha2, hb2, ← Nat.sub_mul]
  have hcmp : b < a := by
    rw [ha2, hb2] at hc; exact Nat.lt_of_mul_lt_mul_right hc
  have CM := fun (w : World) (va vb : Value) (h1 : NatAt w va a) (h2 : NatAt w vb b) => natCmp 100 (by omega) h1 h2 ka kb
  have hcg : cmpI a b = 1 := by unfold cmpI; rw [if_neg (by omega), if_neg (by omega)]
  rw [hcg] at CM
  have RR := fun (w : World) (va vb : Value) => add_round32 w (neg32 x) va vb (a - b) (se32 x) (100 + 1) (by omega) (by omega) (by omega)
  have kn := kn_sub (b := b) ka
  generalize rd32 (neg32 x) ((a - b) * 2 ^ se32 x) 1 = R at *
  have SH1 := fun (w : World) (va : Value) (h1 : NatAt w va (sm32 x)) => natShl (s := 0) 100 (by omega) h1 (lt_100 (by omega)) (by omega)
  have SH2 := fun (w : World) (va : Value) (h1 : NatAt w va (sm32 y)) => natShl (s := (se32 y - se32 x)) 100 (by omega) h1 (lt_100 (by omega)) (by omega)
  rw [← ha] at SH1
  rw [← hb] at SH2
  have t1 : -149 + (se32 x : Int) ≤ -149 + (se32 y : Int) := by omega
  have d1 : -149 + (se32 x : Int) - (-149 + (se32 x : Int)) = ((0 : Nat) : Int) := by omega
  have d2 : -149 + (se32 y : Int) - (-149 + (se32 x : Int)) = ((se32 y - se32 x : Nat) : Int) := by omega
  have q2 : se32 y - se32 x < 255 := by omega
  generalize se32 y - se32 x = dd at *
  have lx : sm32 x < 18446744073709551616 := by omega
  have ly : sm32 y < 18446744073709551616 := by omega
  have hns : neg32 y = !neg32 x := bool_ne hs
  rw [hns] at SY
  have LX := Lib.hid lx
  have LY := Lib.hid ly
  clear lx ly v1 v2 ha hb ha2 hb2 nx ix ny iy hs hc hns er
  generalize sm32 x = mx at *
  generalize sm32 y = my at *
  generalize se32 x = dx at *
  generalize se32 y = dy at *
  generalize neg32 x = sx at *
  have SX := Lib.hid SX
  have SY := Lib.hid SY
  have NX := Lib.hid NX
  have NY := Lib.hid NY
  have IX := Lib.hid IX
  have IY := Lib.hid IY
  have MX := Lib.hid MX
  have MY := Lib.hid MY
  have CM := Lib.hid CM
  have SH1 := Lib.hid SH1
  have SH2 := Lib.hid SH2
  have RR := Lib.hid RR
  have KA := Lib.hid ka
  have KB := Lib.hid kb
  have HC := Lib.hid hcmp
  have KN := Lib.hid kn
  clear hx hy ka kb hcmp ho kn
  go_enter Try.func33, Try.ntmps33
  go_wp2_with fail
  go_wp2_with fail
  refine (NX.out _).mono ?_
  rintro e v1 ⟨rfl, hb⟩
  have hs := FB32.step HSa.out hb
  have HS1 := Lib.hid hs
  clear hb
  obtain ⟨c0, c1, c2, c3, c4, c5, c6⟩ := hs
  clear c5 c6
  go_wp2_with fail
  refine (NY.out _).mono ?_
  rintro e v2 ⟨rfl, hb⟩
  have hs := FB32.step HS1.out hb
  have HS2 := Lib.hid hs
  clear hb c0 c1 c2 c3 c4
  obtain ⟨c0, c1, c2, c3, c4, c5, c6⟩ := hs
  clear c5 c6
  go_wp2_with fail
  refine (IX.out _).mono ?_
  rintro e v3 ⟨rfl, hb⟩
  have hs := FB32.step HS2.out hb
  have HS3 := Lib.hid hs
  clear hb c0 c1 c2 c3 c4
  obtain ⟨c0, c1, c2, c3, c4, c5, c6⟩ := hs
  clear c5 c6
  go_wp2_with fail
  refine (IX.out _).mono ?_
  rintro e v4 ⟨rfl, hb⟩
  have hs := FB32.step HS3.out hb
  have HS4 := Lib.hid hs
  clear hb c0 c1 c2 c3 c4
  obtain ⟨c0, c1, c2, c3, c4, c5, c6⟩ := hs
  clear c5 c6
  go_wp2_with fail
  refine (IY.out _).mono ?_
  rintro e v5 ⟨rfl, hb⟩
  have hs := FB32.step HS4.out hb
  have HS5 := Lib.hid hs
  clear hb c0 c1 c2 c3 c4
  obtain ⟨c0, c1, c2, c3, c4, c5, c6⟩ := hs
  clear c5 c6
  go_wp2_with fail
  refine (MX.out _).mono ?_
  rintro e v6 ⟨rfl, hb⟩
  have hs := FB32.step HS5.out hb
  have HS6 := Lib.hid hs
  clear hb c0 c1 c2 c3 c4
  obtain ⟨c0, c1, c2, c3, c4, c5, c6⟩ := hs
  clear c5 c6
  go_wp2_with fail
  refine (MY.out _).mono ?_
  rintro e v7 ⟨rfl, hb⟩
  have hs := FB32.step HS6.out hb
  have HS7 := Lib.hid hs
  clear hb c0 c1 c2 c3 c4
  obtain ⟨c0, c1, c2, c3, c4, c5, c6⟩ := hs
  clear c5 c6
  have HF0 := HS7
  clear c0 c1 c2 c3 c4
  go_wp2_with fail
  refine (natOf_any _ mx LX.out).mono ?_
  rintro e a1 ⟨va, rfl, na, ba⟩
  have C1 := Lib.hid (SH1.out _ _ na)
  have HF1 := Lib.hid (FB32.step HF0.out ba)
  clear na ba
  go_wp2_with fail
  refine (C1.out).mono ?_
  rintro e a2 ⟨vA, rfl, nA, bA⟩
  have HA := Lib.hid nA
  have HF2 := Lib.hid (FB32.step HF1.out bA)
  clear nA bA
  go_wp2_with fail
  refine (natOf_any _ my LY.out).mono ?_
  rintro e a3 ⟨vb, rfl, nb, bb⟩
  have C2 := Lib.hid (SH2.out _ _ nb)
  have HA := Lib.hid (HA.out.below bb)
  have HF3 := Lib.hid (FB32.step HF2.out bb)
  clear nb bb
  go_wp2_with fail
  refine (C2.out).mono ?_
  rintro e a4 ⟨vB, rfl, nB, bB⟩
  have HA := Lib.hid (HA.out.below bB)
  have HB := Lib.hid nB
  have hf4 := FB32.step HF3.out bB
  have HF4 := Lib.hid hf4
  clear nB bB
  obtain ⟨c0, c1, c2, c3, c4, c5, c6⟩ := hf4
  clear c5 c6
  have C3 := Lib.hid (CM.out _ _ _ HA.out HB.out)
  go_wp2_with fail
  refine (C3.out).mono ?_
  rintro e a5 ⟨rfl, rfl⟩
  have HD : Hid (FB32 w a4.drew ∧ NatAt a4.drew vA a ∧ NatAt a4.drew vB b) := Lib.hid ⟨FB32.drew HF4.out, HA.out.drew, HB.out.drew⟩
  go_wp2_with fail
  go_region_held3 (fun w' => FB32 w w' ∧ NatAt w' vA a ∧ NatAt w' vB b) (first | assumption | exact HD.out) (first | (go_at_call 36; (first | with_reducible refine (SX.out _).mono ?_ | with_reducible refine (SY.out _).mono ?_); rintro e w1 ⟨rfl, hb⟩; have hs := add_held32 (w := w) (va := vA) (vb := vB) (by assumption) hb; clear hb))
  have HE := Lib.hid hs
  go_wp2_with fail
  have HD2 : Hid (FB32 w w1.drew ∧ NatAt w1.drew vA a ∧ NatAt w1.drew vB b) := Lib.hid ⟨FB32.drew HE.out.1, HE.out.2.1.drew, HE.out.2.2.drew⟩
  clear hs
  go_region_held3 (fun w' => FB32 w w' ∧ NatAt w' vA a ∧ NatAt w' vB b) (first | assumption | exact HD2.out) (first | (go_at_call 36; (with_reducible refine (SX.out _).mono ?_); rintro e w2 ⟨rfl, hb⟩; have hs := add_held32 (w := w) (va := vA) (vb := vB) (by assumption) hb; clear hb) | (go_at_call 60; obtain ⟨_, nA, nB⟩ := (show FB32 w _ ∧ NatAt _ vA a ∧ NatAt _ vB b by assumption); (with_reducible refine (natSub 100 (by omega) nA nB KA.out (Nat.le_of_lt HC.out)).mono ?_); rintro e a6 ⟨vN, rfl, nN, bN⟩; have hs := add_held32 (w := w) (va := vA) (vb := vB) (by assumption) bN; clear bN nA nB) | (go_at_call 59; (with_reducible refine (one_any _).mono ?_); rintro e a7 ⟨vO, rfl, nO, bO⟩; have nN := nN.below bO; have hs := add_held32 (w := w) (va := vA) (vb := vB) (by assumption) bO; clear bO) | (go_at_call 57; (with_reducible refine (RR.out _ _ _ nN nO KN.out).mono ?_); rintro e a8 ⟨rfl, bR⟩; have hs := add_held32 (w := w) (va := vA) (vb := vB) (by assumption) bR; clear bR))
  go_wp2_with fail
  go_ret2
  exact ⟨rfl, FB32.below (And.left hs)⟩
set_option maxRecDepth 100000 in
set_option maxHeartbeats 4000000 in
theorem faddlelt32_w (x y : Nat) (w : World) (hx : x < 4294967296) (hy : y < 4294967296) (nx : isNaN32 x = false) (ix : isInf32 x = false) (ny : isNaN32 y = false) (iy : isInf32 y = false) (ho : se32 x ≤ se32 y) (hs : neg32 x ≠ neg32 y) (hc : val32 x < val32 y) : Calls Try.prog 33 #[.agg #[.int .i64 24, .int .i64 23, .int .i64 (-149), .int .u64 255, .int .u64 2147483648], .int .u64 (x : Int), .int .u64 (y : Int)] w (RetB (.tuple #[.int .u64 (((addf32 x y) : Nat) : Int), .bool true]) w) := by
  have SX := fun w => fneg32_any x w hx
  have SY := fun w => fneg32_any y w hy
  have NX := fun w => fnan32_any x w hx
  have NY := fun w => fnan32_any y w hy
  have IX := fun w => finf32_any x w hx
  have IY := fun w => finf32_any y w hy
  have MX := fun w => fsize32_any x w hx
  have MY := fun w => fsize32_any y w hy
  have HSa := Lib.hid (FB32.start0 w)
  rw [nx] at NX
  rw [ix] at IX
  rw [ny] at NY
  rw [iy] at IY
  have b1 := sm_lt32 x
  have b2 := sm_lt32 y
  have s1 := se_lt32 x
  have s2 := se_lt32 y
  have v1 := val_sm32 x
  have v2 := val_sm32 y
  obtain ⟨a, ha, ha2, ka⟩ : ∃ a, a = sm32 x * 2 ^ 0 ∧ val32 x = a * 2 ^ se32 x ∧ a < 2 ^ (32 * 100) := add_sz v1 (by omega) (by omega) (by omega)
  obtain ⟨b, hb, hb2, kb⟩ : ∃ b, b = sm32 y * 2 ^ (se32 y - se32 x) ∧ val32 y = b * 2 ^ se32 x ∧ b < 2 ^ (32 * 100) := add_sz v2 (by omega) (by omega) (by omega)
  have er := addf_diff32 (fun h => hs h.symm) hc
  rw [addf_comm32, er, ha2, hb2, ← Nat.sub_mul]
  have hcmp : a < b := by
    rw [ha2, hb2] at hc; exact Nat.lt_of_mul_lt_mul_right hc
  have CM := fun (w : World) (va vb : Value) (h1 : NatAt w va a) (h2 : NatAt w vb b) => natCmp 100 (by omega) h1 h2 ka kb
  rw [cmpI_lt hcmp] at CM
  have RR := fun (w : World) (va vb : Value) => add_round32 w (neg32 y) va vb (b - a) (se32 x) (100 + 1) (by omega) (by omega) (by omega)
  have kn := kn_sub (b := a) kb
  generalize rd32 (neg32 y) ((b - a) * 2 ^ se32 x) 1 = R at *
  have SH1 := fun (w : World) (va : Value) (h1 : NatAt w va (sm32 x)) => natShl (s := 0) 100 (by omega) h1 (lt_100 (by omega)) (by omega)
  have SH2 := fun (w : World) (va : Value) (h1 : NatAt w va (sm32 y)) => natShl (s := (se32 y - se32 x)) 100 (by omega) h1 (lt_100 (by omega)) (by omega)
  rw [← ha] at SH1
  rw [← hb] at SH2
  have t1 : -149 + (se32 x : Int) ≤ -149 + (se32 y : Int) := by omega
  have d1 : -149 + (se32 x : Int) - (-149 + (se32 x : Int)) = ((0 : Nat) : Int) := by omega
  have d2 : -149 + (se32 y : Int) - (-149 + (se32 x : Int)) = ((se32 y - se32 x : Nat) : Int) := by omega
  have q2 : se32 y - se32 x < 255 := by omega
  generalize se32 y - se32 x = dd at *
  have lx : sm32 x < 18446744073709551616 := by omega
  have ly : sm32 y < 18446744073709551616 := by omega
  have hns : neg32 y = !neg32 x := bool_ne hs
  rw [hns] at SY
  rw [hns] at RR
  have LX := Lib.hid lx
  have LY := Lib.hid ly
  clear lx ly v1 v2 ha hb ha2 hb2 nx ix ny iy hs hc hns er
  generalize sm32 x = mx at *
  generalize sm32 y = my at *
  generalize se32 x = dx at *
  generalize se32 y = dy at *
  generalize neg32 x = sx at *
  have SX := Lib.hid SX
  have SY := Lib.hid SY
  have NX := Lib.hid NX
  have NY := Lib.hid NY
  have IX := Lib.hid IX
  have IY := Lib.hid IY
  have MX := Lib.hid MX
  have MY := Lib.hid MY
  have CM := Lib.hid CM
  have SH1 := Lib.hid SH1
  have SH2 := Lib.hid SH2
  have RR := Lib.hid RR
  have KA := Lib.hid ka
  have KB := Lib.hid kb
  have HC := Lib.hid hcmp
  have KN := Lib.hid kn
  clear hx hy ka kb hcmp ho kn
  go_enter Try.func33, Try.ntmps33
  go_wp2_with fail
  go_wp2_with fail
  refine (NX.out _).mono ?_
  rintro e v1 ⟨rfl, hb⟩
  have hs := FB32.step HSa.out hb
  have HS1 := Lib.hid hs
  clear hb
  obtain ⟨c0, c1, c2, c3, c4, c5, c6⟩ := hs
  clear c5 c6
  go_wp2_with fail
  refine (NY.out _).mono ?_
  rintro e v2 ⟨rfl, hb⟩
  have hs := FB32.step HS1.out hb
  have HS2 := Lib.hid hs
  clear hb c0 c1 c2 c3 c4
  obtain ⟨c0, c1, c2, c3, c4, c5, c6⟩ := hs
  clear c5 c6
  go_wp2_with fail
  refine (IX.out _).mono ?_
  rintro e v3 ⟨rfl, hb⟩
  have hs := FB32.step HS2.out hb
  have HS3 := Lib.hid hs
  clear hb c0 c1 c2 c3 c4
  obtain ⟨c0, c1, c2, c3, c4, c5, c6⟩ := hs
  clear c5 c6
  go_wp2_with fail
  refine (IX.out _).mono ?_
  rintro e v4 ⟨rfl, hb⟩
  have hs := FB32.step HS3.out hb
  have HS4 := Lib.hid hs
  clear hb c0 c1 c2 c3 c4
  obtain ⟨c0, c1, c2, c3, c4, c5, c6⟩ := hs
  clear c5 c6
  go_wp2_with fail
  refine (IY.out _).mono ?_
  rintro e v5 ⟨rfl, hb⟩
  have hs := FB32.step HS4.out hb
  have HS5 := Lib.hid hs
  clear hb c0 c1 c2 c3 c4
  obtain ⟨c0, c1, c2, c3, c4, c5, c6⟩ := hs
  clear c5 c6
  go_wp2_with fail
  refine (MX.out _).mono ?_
  rintro e v6 ⟨rfl, hb⟩
  have hs := FB32.step HS5.out hb
  have HS6 := Lib.hid hs
  clear hb c0 c1 c2 c3 c4
  obtain ⟨c0, c1, c2, c3, c4, c5, c6⟩ := hs
  clear c5 c6
  go_wp2_with fail
  refine (MY.out _).mono ?_
  rintro e v7 ⟨rfl, hb⟩
  have hs := FB32.step HS6.out hb
  have HS7 := Lib.hid hs
  clear hb c0 c1 c2 c3 c4
  obtain ⟨c0, c1, c2, c3, c4, c5, c6⟩ := hs
  clear c5 c6
  have HF0 := HS7
  clear c0 c1 c2 c3 c4
  go_wp2_with fail
  refine (natOf_any _ mx LX.out).mono ?_
  rintro e a1 ⟨va, rfl, na, ba⟩
  have C1 := Lib.hid (SH1.out _ _ na)
  have HF1 := Lib.hid (FB32.step HF0.out ba)
  clear na ba
  go_wp2_with fail
  refine (C1.out).mono ?_
  rintro e a2 ⟨vA, rfl, nA, bA⟩
  have HA := Lib.hid nA
  have HF2 := Lib.hid (FB32.step HF1.out bA)
  clear nA bA
  go_wp2_with fail
  refine (natOf_any _ my LY.out).mono ?_
  rintro e a3 ⟨vb, rfl, nb, bb⟩
  have C2 := Lib.hid (SH2.out _ _ nb)
  have HA := Lib.hid (HA.out.below bb)
  have HF3 := Lib.hid (FB32.step HF2.out bb)
  clear nb bb
  go_wp2_with fail
  refine (C2.out).mono ?_
  rintro e a4 ⟨vB, rfl, nB, bB⟩
  have HA := Lib.hid (HA.out.below bB)
  have HB := Lib.hid nB
  have hf4 := FB32.step HF3.out bB
  have HF4 := Lib.hid hf4
  clear nB bB
  obtain ⟨c0, c1, c2, c3, c4, c5, c6⟩ := hf4
  clear c5 c6
  have C3 := Lib.hid (CM.out _ _ _ HA.out HB.out)
  go_wp2_with fail
  refine (C3.out).mono ?_
  rintro e a5 ⟨rfl, rfl⟩
  have HD : Hid (FB32 w a4.drew ∧ NatAt a4.drew vA a ∧ NatAt a4.drew vB b) := Lib.hid ⟨FB32.drew HF4.out, HA.out.drew, HB.out.drew⟩
  go_wp2_with fail
  go_region_held3 (fun w' => FB32 w w' ∧ NatAt w' vA a ∧ NatAt w' vB b) (first | assumption | exact HD.out) (first | (go_at_call 36; (first | with_reducible refine (SX.out _).mono ?_ | with_reducible refine (SY.out _).mono ?_); rintro e w1 ⟨rfl, hb⟩; have hs := add_held32 (w := w) (va := vA) (vb := vB) (by assumption) hb; clear hb))
  have HE := Lib.hid hs
  go_wp2_with fail
  have HD2 : Hid (FB32 w w1.drew ∧ NatAt w1.drew vA a ∧ NatAt w1.drew vB b) := Lib.hid ⟨FB32.drew HE.out.1, HE.out.2.1.drew, HE.out.2.2.drew⟩
  clear hs
  go_region_held3 (fun w' => FB32 w w' ∧ NatAt w' vA a ∧ NatAt w' vB b) (first | assumption | exact HD2.out) (first | (go_at_call 36; (with_reducible refine (SY.out _).mono ?_); rintro e w2 ⟨rfl, hb⟩; have hs := add_held32 (w := w) (va := vA) (vb := vB) (by assumption) hb; clear hb) | (go_at_call 60; obtain ⟨_, nA, nB⟩ := (show FB32 w _ ∧ NatAt _ vA a ∧ NatAt _ vB b by assumption); (with_reducible refine (natSub 100 (by omega) nB nA KB.out (Nat.le_of_lt HC.out)).mono ?_); rintro e a6 ⟨vN, rfl, nN, bN⟩; have hs := add_held32 (w := w) (va := vA) (vb := vB) (by assumption) bN; clear bN nA nB) | (go_at_call 59; (with_reducible refine (one_any _).mono ?_); rintro e a7 ⟨vO, rfl, nO, bO⟩; have nN := nN.below bO; have hs := add_held32 (w := w) (va := vA) (vb := vB) (by assumption) bO; clear bO) | (go_at_call 57; (with_reducible refine (RR.out _ _ _ nN nO KN.out).mono ?_); rintro e a8 ⟨rfl, bR⟩; have hs := add_held32 (w := w) (va := vA) (vb := vB) (by assumption) bR; clear bR))
  go_wp2_with fail
  go_ret2
  exact ⟨rfl, FB32.below (And.left hs)⟩
set_option maxRecDepth 100000 in
set_option maxHeartbeats 4000000 in
theorem faddgtsame32_w (x y : Nat) (w : World) (hx : x < 4294967296) (hy : y < 4294967296) (nx : isNaN32 x = false) (ix : isInf32 x = false) (ny : isNaN32 y = false) (iy : isInf32 y = false) (ho : se32 y < se32 x) (hs : neg32 x = neg32 y) : Calls Try.prog 33 #[.agg #[.int .i64 24, .int .i64 23, .int .i64 (-149), .int .u64 255, .int .u64 2147483648], .int .u64 (x : Int), .int .u64 (y : Int)] w (RetB (.tuple #[.int .u64 (((addf32 x y) : Nat) : Int), .bool true]) w) := by
  have SX := fun w => fneg32_any x w hx
  have SY := fun w => fneg32_any y w hy
  have NX := fun w => fnan32_any x w hx
  have NY := fun w => fnan32_any y w hy
  have IX := fun w => finf32_any x w hx
  have IY := fun w => finf32_any y w hy
  have MX := fun w => fsize32_any x w hx
  have MY := fun w => fsize32_any y w hy
  have HSa := Lib.hid (FB32.start0 w)
  rw [nx] at NX
  rw [ix] at IX
  rw [ny] at NY
  rw [iy] at IY
  have b1 := sm_lt32 x
  have b2 := sm_lt32 y
  have s1 := se_lt32 x
  have s2 := se_lt32 y
  have v1 := val_sm32 x
  have v2 := val_sm32 y
  obtain ⟨a, ha, ha2, ka⟩ : ∃ a, a = sm32 x * 2 ^ (se32 x - se32 y) ∧ val32 x = a * 2 ^ se32 y ∧ a < 2 ^ (32 * 100) := add_sz v1 (by omega) (by omega) (by omega)
  obtain ⟨b, hb, hb2, kb⟩ : ∃ b, b = sm32 y * 2 ^ 0 ∧ val32 y = b * 2 ^ se32 y ∧ b < 2 ^ (32 * 100) := add_sz v2 (by omega) (by omega) (by omega)
  have er : addf32 x y = rd32 (neg32 x) (val32 x + val32 y) 1 := addf_same032 hs
  rw [er, ha2, hb2, ← Nat.add_mul]
  have hcmp : True := by
    trivial
  have CM := fun (w : World) (va vb : Value) (h1 : NatAt w va a) (h2 : NatAt w vb b) => natCmp 100 (by omega) h1 h2 ka kb
  generalize cmpI a b = cc at CM
  have RR := fun (w : World) (va vb : Value) => add_round32 w (neg32 x) va vb (a + b) (se32 y) (100 + 1) (by omega) (by omega) (by omega)
  have kn := kn_add ka kb
  generalize rd32 (neg32 x) ((a + b) * 2 ^ se32 y) 1 = R at *
  have SH1 := fun (w : World) (va : Value) (h1 : NatAt w va (sm32 x)) => natShl (s := (se32 x - se32 y)) 100 (by omega) h1 (lt_100 (by omega)) (by omega)
  have SH2 := fun (w : World) (va : Value) (h1 : NatAt w va (sm32 y)) => natShl (s := 0) 100 (by omega) h1 (lt_100 (by omega)) (by omega)
  rw [← ha] at SH1
  rw [← hb] at SH2
  have t1 : -149 + (se32 y : Int) < -149 + (se32 x : Int) := by omega
  have d1 : -149 + (se32 y : Int) - (-149 + (se32 y : Int)) = ((0 : Nat) : Int) := by omega
  have d2 : -149 + (se32 x : Int) - (-149 + (se32 y : Int)) = ((se32 x - se32 y : Nat) : Int) := by omega
  have q2 : se32 x - se32 y < 255 := by omega
  generalize se32 x - se32 y = dd at *
  have lx : sm32 x < 18446744073709551616 := by omega
  have ly : sm32 y < 18446744073709551616 := by omega
  rw [← hs] at SY
  have LX := Lib.hid lx
  have LY := Lib.hid ly
  clear lx ly v1 v2 ha hb ha2 hb2 nx ix ny iy hs er
  generalize sm32 x = mx at *
  generalize sm32 y = my at *
  generalize se32 x = dx at *
  generalize se32 y = dy at *
  generalize neg32 x = sx at *
  have SX := Lib.hid SX
  have SY := Lib.hid SY
  have NX := Lib.hid NX
  have NY := Lib.hid NY
  have IX := Lib.hid IX
  have IY := Lib.hid IY
  have MX := Lib.hid MX
  have MY := Lib.hid MY
  have CM := Lib.hid CM
  have SH1 := Lib.hid SH1
  have SH2 := Lib.hid SH2
  have RR := Lib.hid RR
  have KA := Lib.hid ka
  have KB := Lib.hid kb
  have HC := Lib.hid hcmp
  have KN := Lib.hid kn
  clear hx hy ka kb hcmp ho kn
  go_enter Try.func33, Try.ntmps33
  go_wp2_with fail
  go_wp2_with fail
  refine (NX.out _).mono ?_
  rintro e v1 ⟨rfl, hb⟩
  have hs := FB32.step HSa.out hb
  have HS1 := Lib.hid hs
  clear hb
  obtain ⟨c0, c1, c2, c3, c4, c5, c6⟩ := hs
  clear c5 c6
  go_wp2_with fail
  refine (NY.out _).mono ?_
  rintro e v2 ⟨rfl, hb⟩
  have hs := FB32.step HS1.out hb
  have HS2 := Lib.hid hs
  clear hb c0 c1 c2 c3 c4
  obtain ⟨c0, c1, c2, c3, c4, c5, c6⟩ := hs
  clear c5 c6
  go_wp2_with fail
  refine (IX.out _).mono ?_
  rintro e v3 ⟨rfl, hb⟩
  have hs := FB32.step HS2.out hb
  have HS3 := Lib.hid hs
  clear hb c0 c1 c2 c3 c4
  obtain ⟨c0, c1, c2, c3, c4, c5, c6⟩ := hs
  clear c5 c6
  go_wp2_with fail
  refine (IX.out _).mono ?_
  rintro e v4 ⟨rfl, hb⟩
  have hs := FB32.step HS3.out hb
  have HS4 := Lib.hid hs
  clear hb c0 c1 c2 c3 c4
  obtain ⟨c0, c1, c2, c3, c4, c5, c6⟩ := hs
  clear c5 c6
  go_wp2_with fail
  refine (IY.out _).mono ?_
  rintro e v5 ⟨rfl, hb⟩
  have hs := FB32.step HS4.out hb
  have HS5 := Lib.hid hs
  clear hb c0 c1 c2 c3 c4
  obtain ⟨c0, c1, c2, c3, c4, c5, c6⟩ := hs
  clear c5 c6
  go_wp2_with fail
  refine (MX.out _).mono ?_
  rintro e v6 ⟨rfl, hb⟩
  have hs := FB32.step HS5.out hb
  have HS6 := Lib.hid hs
  clear hb c0 c1 c2 c3 c4
  obtain ⟨c0, c1, c2, c3, c4, c5, c6⟩ := hs
  clear c5 c6
  go_wp2_with fail
  refine (MY.out _).mono ?_
  rintro e v7 ⟨rfl, hb⟩
  have hs := FB32.step HS6.out hb
  have HS7 := Lib.hid hs
  clear hb c0 c1 c2 c3 c4
  obtain ⟨c0, c1, c2, c3, c4, c5, c6⟩ := hs
  clear c5 c6
  have HF0 := HS7
  clear c0 c1 c2 c3 c4
  go_wp2_with fail
  refine (natOf_any _ mx LX.out).mono ?_
  rintro e a1 ⟨va, rfl, na, ba⟩
  have C1 := Lib.hid (SH1.out _ _ na)
  have HF1 := Lib.hid (FB32.step HF0.out ba)
  clear na ba
  go_wp2_with fail
  refine (C1.out).mono ?_
  rintro e a2 ⟨vA, rfl, nA, bA⟩
  have HA := Lib.hid nA
  have HF2 := Lib.hid (FB32.step HF1.out bA)
  clear nA bA
  go_wp2_with fail
  refine (natOf_any _ my LY.out).mono ?_
  rintro e a3 ⟨vb, rfl, nb, bb⟩
  have C2 := Lib.hid (SH2.out _ _ nb)
  have HA := Lib.hid (HA.out.below bb)
  have HF3 := Lib.hid (FB32.step HF2.out bb)
  clear nb bb
  go_wp2_with fail
  refine (C2.out).mono ?_
  rintro e a4 ⟨vB, rfl, nB, bB⟩
  have HA := Lib.hid (HA.out.below bB)
  have HB := Lib.hid nB
  have hf4 := FB32.step HF3.out bB
  have HF4 := Lib.hid hf4
  clear nB bB
  obtain ⟨c0, c1, c2, c3, c4, c5, c6⟩ := hf4
  clear c5 c6
  have C3 := Lib.hid (CM.out _ _ _ HA.out HB.out)
  go_wp2_with fail
  refine (C3.out).mono ?_
  rintro e a5 ⟨rfl, rfl⟩
  have HD : Hid (FB32 w a4.drew ∧ NatAt a4.drew vA a ∧ NatAt a4.drew vB b) := Lib.hid ⟨FB32.drew HF4.out, HA.out.drew, HB.out.drew⟩
  go_wp2_with fail
  go_region_held3 (fun w' => FB32 w w' ∧ NatAt w' vA a ∧ NatAt w' vB b) (first | assumption | exact HD.out) (first | (go_at_call 36; (first | with_reducible refine (SX.out _).mono ?_ | with_reducible refine (SY.out _).mono ?_); rintro e w1 ⟨rfl, hb⟩; have hs := add_held32 (w := w) (va := vA) (vb := vB) (by assumption) hb; clear hb))
  have HE := Lib.hid hs
  go_wp2_with fail
  have HD2 : Hid (FB32 w w1.drew ∧ NatAt w1.drew vA a ∧ NatAt w1.drew vB b) := Lib.hid ⟨FB32.drew HE.out.1, HE.out.2.1.drew, HE.out.2.2.drew⟩
  clear hs
  go_region_held3 (fun w' => FB32 w w' ∧ NatAt w' vA a ∧ NatAt w' vB b) (first | assumption | exact HD2.out) (first | (go_at_call 36; (with_reducible refine (SX.out _).mono ?_); rintro e w2 ⟨rfl, hb⟩; have hs := add_held32 (w := w) (va := vA) (vb := vB) (by assumption) hb; clear hb) | (go_at_call 58; obtain ⟨_, nA, nB⟩ := (show FB32 w _ ∧ NatAt _ vA a ∧ NatAt _ vB b by assumption); (with_reducible refine (natAdd 100 (by omega) nA nB KA.out KB.out).mono ?_); rintro e a6 ⟨vN, rfl, nN, bN⟩; have hs := add_held32 (w := w) (va := vA) (vb := vB) (by assumption) bN; clear bN nA nB) | (go_at_call 59; (with_reducible refine (one_any _).mono ?_); rintro e a7 ⟨vO, rfl, nO, bO⟩; have nN := nN.below bO; have hs := add_held32 (w := w) (va := vA) (vb := vB) (by assumption) bO; clear bO) | (go_at_call 57; (with_reducible refine (RR.out _ _ _ nN nO KN.out).mono ?_); rintro e a8 ⟨rfl, bR⟩; have hs := add_held32 (w := w) (va := vA) (vb := vB) (by assumption) bR; clear bR))
  go_wp2_with fail
  go_ret2
  exact ⟨rfl, FB32.below (And.left hs)⟩
set_option maxRecDepth 100000 in
set_option maxHeartbeats 4000000 in
theorem faddgteq32_w (x y : Nat) (w : World) (hx : x < 4294967296) (hy : y < 4294967296) (nx : isNaN32 x = false) (ix : isInf32 x = false) (ny : isNaN32 y = false) (iy : isInf32 y = false) (ho : se32 y < se32 x) (hs : neg32 x ≠ neg32 y) (hc : val32 x = val32 y) : Calls Try.prog 33 #[.agg #[.int .i64 24, .int .i64 23, .int .i64 (-149), .int .u64 255, .int .u64 2147483648], .int .u64 (x : Int), .int .u64 (y : Int)] w (RetB (.tuple #[.int .u64 (((addf32 x y) : Nat) : Int), .bool true]) w) := by
  have SX := fun w => fneg32_any x w hx
  have SY := fun w => fneg32_any y w hy
  have NX := fun w => fnan32_any x w hx
  have NY := fun w => fnan32_any y w hy
  have IX := fun w => finf32_any x w hx
  have IY := fun w => finf32_any y w hy
  have MX := fun w => fsize32_any x w hx
  have MY := fun w => fsize32_any y w hy
  have HSa := Lib.hid (FB32.start0 w)
  rw [nx] at NX
  rw [ix] at IX
  rw [ny] at NY
  rw [iy] at IY
  have b1 := sm_lt32 x
  have b2 := sm_lt32 y
  have s1 := se_lt32 x
  have s2 := se_lt32 y
  have v1 := val_sm32 x
  have v2 := val_sm32 y
  obtain ⟨a, ha, ha2, ka⟩ : ∃ a, a = sm32 x * 2 ^ (se32 x - se32 y) ∧ val32 x = a * 2 ^ se32 y ∧ a < 2 ^ (32 * 100) := add_sz v1 (by omega) (by omega) (by omega)
  obtain ⟨b, hb, hb2, kb⟩ : ∃ b, b = sm32 y * 2 ^ 0 ∧ val32 y = b * 2 ^ se32 y ∧ b < 2 ^ (32 * 100) := add_sz v2 (by omega) (by omega) (by omega)
  rw [addf_eq32 hs hc]
  have hcmp : a = b := by
    rw [ha2, hb2] at hc; exact Nat.eq_of_mul_eq_mul_right (two_pow_pos _) hc
  have CM := fun (w : World) (va vb : Value) (h1 : NatAt w va a) (h2 : NatAt w vb b) => natCmp 100 (by omega) h1 h2 ka kb
  rw [show cmpI a b = 0 by rw [hcmp]; exact cmpI_self b] at CM
  have SH1 := fun (w : World) (va : Value) (h1 : NatAt w va (sm32 x)) => natShl (s := (se32 x - se32 y)) 100 (by omega) h1 (lt_100 (by omega)) (by omega)
  have SH2 := fun (w : World) (va : Value) (h1 : NatAt w va (sm32 y)) => natShl (s := 0) 100 (by omega) h1 (lt_100 (by omega)) (by omega)
  rw [← ha] at SH1
  rw [← hb] at SH2
  have t1 : -149 + (se32 y : Int) < -149 + (se32 x : Int) := by omega
  have d1 : -149 + (se32 y : Int) - (-149 + (se32 y : Int)) = ((0 : Nat) : Int) := by omega
  have d2 : -149 + (se32 x : Int) - (-149 + (se32 y : Int)) = ((se32 x - se32 y : Nat) : Int) := by omega
  have q2 : se32 x - se32 y < 255 := by omega
  generalize se32 x - se32 y = dd at *
  have lx : sm32 x < 18446744073709551616 := by omega
  have ly : sm32 y < 18446744073709551616 := by omega
  have hns : neg32 y = !neg32 x := bool_ne hs
  rw [hns] at SY
  have LX := Lib.hid lx
  have LY := Lib.hid ly
  clear lx ly v1 v2 ha hb ha2 hb2 nx ix ny iy hs hc hns
  generalize sm32 x = mx at *
  generalize sm32 y = my at *
  generalize se32 x = dx at *
  generalize se32 y = dy at *
  generalize neg32 x = sx at *
  have SX := Lib.hid SX
  have SY := Lib.hid SY
  have NX := Lib.hid NX
  have NY := Lib.hid NY
  have IX := Lib.hid IX
  have IY := Lib.hid IY
  have MX := Lib.hid MX
  have MY := Lib.hid MY
  have CM := Lib.hid CM
  have SH1 := Lib.hid SH1
  have SH2 := Lib.hid SH2
  have KA := Lib.hid ka
  have KB := Lib.hid kb
  have HC := Lib.hid hcmp
  clear hx hy ka kb hcmp ho
  go_enter Try.func33, Try.ntmps33
  go_wp2_with fail
  go_wp2_with fail
  refine (NX.out _).mono ?_
  rintro e v1 ⟨rfl, hb⟩
  have hs := FB32.step HSa.out hb
  have HS1 := Lib.hid hs
  clear hb
  obtain ⟨c0, c1, c2, c3, c4, c5, c6⟩ := hs
  clear c5 c6
  go_wp2_with fail
  refine (NY.out _).mono ?_
  rintro e v2 ⟨rfl, hb⟩
  have hs := FB32.step HS1.out hb
  have HS2 := Lib.hid hs
  clear hb c0 c1 c2 c3 c4
  obtain ⟨c0, c1, c2, c3, c4, c5, c6⟩ := hs
  clear c5 c6
  go_wp2_with fail
  refine (IX.out _).mono ?_
  rintro e v3 ⟨rfl, hb⟩
  have hs := FB32.step HS2.out hb
  have HS3 := Lib.hid hs
  clear hb c0 c1 c2 c3 c4
  obtain ⟨c0, c1, c2, c3, c4, c5, c6⟩ := hs
  clear c5 c6
  go_wp2_with fail
  refine (IX.out _).mono ?_
  rintro e v4 ⟨rfl, hb⟩
  have hs := FB32.step HS3.out hb
  have HS4 := Lib.hid hs
  clear hb c0 c1 c2 c3 c4
  obtain ⟨c0, c1, c2, c3, c4, c5, c6⟩ := hs
  clear c5 c6
  go_wp2_with fail
  refine (IY.out _).mono ?_
  rintro e v5 ⟨rfl, hb⟩
  have hs := FB32.step HS4.out hb
  have HS5 := Lib.hid hs
  clear hb c0 c1 c2 c3 c4
  obtain ⟨c0, c1, c2, c3, c4, c5, c6⟩ := hs
  clear c5 c6
  go_wp2_with fail
  refine (MX.out _).mono ?_
  rintro e v6 ⟨rfl, hb⟩
  have hs := FB32.step HS5.out hb
  have HS6 := Lib.hid hs
  clear hb c0 c1 c2 c3 c4
  obtain ⟨c0, c1, c2, c3, c4, c5, c6⟩ := hs
  clear c5 c6
  go_wp2_with fail
  refine (MY.out _).mono ?_
  rintro e v7 ⟨rfl, hb⟩
  have hs := FB32.step HS6.out hb
  have HS7 := Lib.hid hs
  clear hb c0 c1 c2 c3 c4
  obtain ⟨c0, c1, c2, c3, c4, c5, c6⟩ := hs
  clear c5 c6
  have HF0 := HS7
  clear c0 c1 c2 c3 c4
  go_wp2_with fail
  refine (natOf_any _ mx LX.out).mono ?_
  rintro e a1 ⟨va, rfl, na, ba⟩
  have C1 := Lib.hid (SH1.out _ _ na)
  have HF1 := Lib.hid (FB32.step HF0.out ba)
  clear na ba
  go_wp2_with fail
  refine (C1.out).mono ?_
  rintro e a2 ⟨vA, rfl, nA, bA⟩
  have HA := Lib.hid nA
  have HF2 := Lib.hid (FB32.step HF1.out bA)
  clear nA bA
  go_wp2_with fail
  refine (natOf_any _ my LY.out).mono ?_
  rintro e a3 ⟨vb, rfl, nb, bb⟩
  have C2 := Lib.hid (SH2.out _ _ nb)
  have HA := Lib.hid (HA.out.below bb)
  have HF3 := Lib.hid (FB32.step HF2.out bb)
  clear nb bb
  go_wp2_with fail
  refine (C2.out).mono ?_
  rintro e a4 ⟨vB, rfl, nB, bB⟩
  have HA := Lib.hid (HA.out.below bB)
  have HB := Lib.hid nB
  have hf4 := FB32.step HF3.out bB
  have HF4 := Lib.hid hf4
  clear nB bB
  obtain ⟨c0, c1, c2, c3, c4, c5, c6⟩ := hf4
  clear c5 c6
  have C3 := Lib.hid (CM.out _ _ _ HA.out HB.out)
  go_wp2_with fail
  refine (C3.out).mono ?_
  rintro e a5 ⟨rfl, rfl⟩
  have HD : Hid (FB32 w a4.drew ∧ NatAt a4.drew vA a ∧ NatAt a4.drew vB b) := Lib.hid ⟨FB32.drew HF4.out, HA.out.drew, HB.out.drew⟩
  go_wp2_with fail
  go_region_held3 (fun w' => FB32 w w' ∧ NatAt w' vA a ∧ NatAt w' vB b) (first | assumption | exact HD.out) (first | (go_at_call 36; (first | with_reducible refine (SX.out _).mono ?_ | with_reducible refine (SY.out _).mono ?_); rintro e w1 ⟨rfl, hb⟩; have hs := add_held32 (w := w) (va := vA) (vb := vB) (by assumption) hb; clear hb))
  have HE := Lib.hid hs
  go_wp2_with fail
  go_ret2
  exact ⟨rfl, FB32.below HE.out.1⟩
set_option maxRecDepth 100000 in
set_option maxHeartbeats 4000000 in
theorem faddgtgt32_w (x y : Nat) (w : World) (hx : x < 4294967296) (hy : y < 4294967296) (nx : isNaN32 x = false) (ix : isInf32 x = false) (ny : isNaN32 y = false) (iy : isInf32 y = false) (ho : se32 y < se32 x) (hs : neg32 x ≠ neg32 y) (hc : val32 y < val32 x) : Calls Try.prog 33 #[.agg #[.int .i64 24, .int .i64 23, .int .i64 (-149), .int .u64 255, .int .u64 2147483648], .int .u64 (x : Int), .int .u64 (y : Int)] w (RetB (.tuple #[.int .u64 (((addf32 x y) : Nat) : Int), .bool true]) w) := by
  have SX := fun w => fneg32_any x w hx
  have SY := fun w => fneg32_any y w hy
  have NX := fun w => fnan32_any x w hx
  have NY := fun w => fnan32_any y w hy
  have IX := fun w => finf32_any x w hx
  have IY := fun w => finf32_any y w hy
  have MX := fun w => fsize32_any x w hx
  have MY := fun w => fsize32_any y w hy
  have HSa := Lib.hid (FB32.start0 w)
  rw [nx] at NX
  rw [ix] at IX
  rw [ny] at NY
  rw [iy] at IY
  have b1 := sm_lt32 x
  have b2 := sm_lt32 y
  have s1 := se_lt32 x
  have s2 := se_lt32 y
  have v1 := val_sm32 x
  have v2 := val_sm32 y
  obtain ⟨a, ha, ha2, ka⟩ : ∃ a, a = sm32 x * 2 ^ (se32 x - se32 y) ∧ val32 x = a * 2 ^ se32 y ∧ a < 2 ^ (32 * 100) := add_sz v1 (by omega) (by omega) (by omega)
  obtain ⟨b, hb, hb2, kb⟩ : ∃ b, b = sm32 y * 2 ^ 0 ∧ val32 y = b * 2 ^ se32 y ∧ b < 2 ^ (32 * 100) := add_sz v2 (by omega) (by omega) (by omega)
  have er := addf_diff32 hs hc
  rw [er, ha2, hb2, ← Nat.sub_mul]
  have hcmp : b < a := by
    rw [ha2, hb2] at hc; exact Nat.lt_of_mul_lt_mul_right hc
  have CM := fun (w : World) (va vb : Value) (h1 : NatAt w va a) (h2 : NatAt w vb b) => natCmp 100 (by omega) h1 h2 ka kb
  have hcg : cmpI a b = 1 := by unfold cmpI; rw [if_neg (by omega), if_neg (by omega)]
  rw [hcg] at CM
  have RR := fun (w : World) (va vb : Value) => add_round32 w (neg32 x) va vb (a - b) (se32 y) (100 + 1) (by omega) (by omega) (by omega)
  have kn := kn_sub (b := b) ka
  generalize rd32 (neg32 x) ((a - b) * 2 ^ se32 y) 1 = R at *
  have SH1 := fun (w : World) (va : Value) (h1 : NatAt w va (sm32 x)) => natShl (s := (se32 x - se32 y)) 100 (by omega) h1 (lt_100 (by omega)) (by omega)
  have SH2 := fun (w : World) (va : Value) (h1 : NatAt w va (sm32 y)) => natShl (s := 0) 100 (by omega) h1 (lt_100 (by omega)) (by omega)
  rw [← ha] at SH1
  rw [← hb] at SH2
  have t1 : -149 + (se32 y : Int) < -149 + (se32 x : Int) := by omega
  have d1 : -149 + (se32 y : Int) - (-149 + (se32 y : Int)) = ((0 : Nat) : Int) := by omega
  have d2 : -149 + (se32 x : Int) - (-149 + (se32 y : Int)) = ((se32 x - se32 y : Nat) : Int) := by omega
  have q2 : se32 x - se32 y < 255 := by omega
  generalize se32 x - se32 y = dd at *
  have lx : sm32 x < 18446744073709551616 := by omega
  have ly : sm32 y < 18446744073709551616 := by omega
  have hns : neg32 y = !neg32 x := bool_ne hs
  rw [hns] at SY
  have LX := Lib.hid lx
  have LY := Lib.hid ly
  clear lx ly v1 v2 ha hb ha2 hb2 nx ix ny iy hs hc hns er
  generalize sm32 x = mx at *
  generalize sm32 y = my at *
  generalize se32 x = dx at *
  generalize se32 y = dy at *
  generalize neg32 x = sx at *
  have SX := Lib.hid SX
  have SY := Lib.hid SY
  have NX := Lib.hid NX
  have NY := Lib.hid NY
  have IX := Lib.hid IX
  have IY := Lib.hid IY
  have MX := Lib.hid MX
  have MY := Lib.hid MY
  have CM := Lib.hid CM
  have SH1 := Lib.hid SH1
  have SH2 := Lib.hid SH2
  have RR := Lib.hid RR
  have KA := Lib.hid ka
  have KB := Lib.hid kb
  have HC := Lib.hid hcmp
  have KN := Lib.hid kn
  clear hx hy ka kb hcmp ho kn
  go_enter Try.func33, Try.ntmps33
  go_wp2_with fail
  go_wp2_with fail
  refine (NX.out _).mono ?_
  rintro e v1 ⟨rfl, hb⟩
  have hs := FB32.step HSa.out hb
  have HS1 := Lib.hid hs
  clear hb
  obtain ⟨c0, c1, c2, c3, c4, c5, c6⟩ := hs
  clear c5 c6
  go_wp2_with fail
  refine (NY.out _).mono ?_
  rintro e v2 ⟨rfl, hb⟩
  have hs := FB32.step HS1.out hb
  have HS2 := Lib.hid hs
  clear hb c0 c1 c2 c3 c4
  obtain ⟨c0, c1, c2, c3, c4, c5, c6⟩ := hs
  clear c5 c6
  go_wp2_with fail
  refine (IX.out _).mono ?_
  rintro e v3 ⟨rfl, hb⟩
  have hs := FB32.step HS2.out hb
  have HS3 := Lib.hid hs
  clear hb c0 c1 c2 c3 c4
  obtain ⟨c0, c1, c2, c3, c4, c5, c6⟩ := hs
  clear c5 c6
  go_wp2_with fail
  refine (IX.out _).mono ?_
  rintro e v4 ⟨rfl, hb⟩
  have hs := FB32.step HS3.out hb
  have HS4 := Lib.hid hs
  clear hb c0 c1 c2 c3 c4
  obtain ⟨c0, c1, c2, c3, c4, c5, c6⟩ := hs
  clear c5 c6
  go_wp2_with fail
  refine (IY.out _).mono ?_
  rintro e v5 ⟨rfl, hb⟩
  have hs := FB32.step HS4.out hb
  have HS5 := Lib.hid hs
  clear hb c0 c1 c2 c3 c4
  obtain ⟨c0, c1, c2, c3, c4, c5, c6⟩ := hs
  clear c5 c6
  go_wp2_with fail
  refine (MX.out _).mono ?_
  rintro e v6 ⟨rfl, hb⟩
  have hs := FB32.step HS5.out hb
  have HS6 := Lib.hid hs
  clear hb c0 c1 c2 c3 c4
  obtain ⟨c0, c1, c2, c3, c4, c5, c6⟩ := hs
  clear c5 c6
  go_wp2_with fail
  refine (MY.out _).mono ?_
  rintro e v7 ⟨rfl, hb⟩
  have hs := FB32.step HS6.out hb
  have HS7 := Lib.hid hs
  clear hb c0 c1 c2 c3 c4
  obtain ⟨c0, c1, c2, c3, c4, c5, c6⟩ := hs
  clear c5 c6
  have HF0 := HS7
  clear c0 c1 c2 c3 c4
  go_wp2_with fail
  refine (natOf_any _ mx LX.out).mono ?_
  rintro e a1 ⟨va, rfl, na, ba⟩
  have C1 := Lib.hid (SH1.out _ _ na)
  have HF1 := Lib.hid (FB32.step HF0.out ba)
  clear na ba
  go_wp2_with fail
  refine (C1.out).mono ?_
  rintro e a2 ⟨vA, rfl, nA, bA⟩
  have HA := Lib.hid nA
  have HF2 := Lib.hid (FB32.step HF1.out bA)
  clear nA bA
  go_wp2_with fail
  refine (natOf_any _ my LY.out).mono ?_
  rintro e a3 ⟨vb, rfl, nb, bb⟩
  have C2 := Lib.hid (SH2.out _ _ nb)
  have HA := Lib.hid (HA.out.below bb)
  have HF3 := Lib.hid (FB32.step HF2.out bb)
  clear nb bb
  go_wp2_with fail
  refine (C2.out).mono ?_
  rintro e a4 ⟨vB, rfl, nB, bB⟩
  have HA := Lib.hid (HA.out.below bB)
  have HB := Lib.hid nB
  have hf4 := FB32.step HF3.out bB
  have HF4 := Lib.hid hf4
  clear nB bB
  obtain ⟨c0, c1, c2, c3, c4, c5, c6⟩ := hf4
  clear c5 c6
  have C3 := Lib.hid (CM.out _ _ _ HA.out HB.out)
  go_wp2_with fail
  refine (C3.out).mono ?_
  rintro e a5 ⟨rfl, rfl⟩
  have HD : Hid (FB32 w a4.drew ∧ NatAt a4.drew vA a ∧ NatAt a4.drew vB b) := Lib.hid ⟨FB32.drew HF4.out, HA.out.drew, HB.out.drew⟩
  go_wp2_with fail
  go_region_held3 (fun w' => FB32 w w' ∧ NatAt w' vA a ∧ NatAt w' vB b) (first | assumption | exact HD.out) (first | (go_at_call 36; (first | with_reducible refine (SX.out _).mono ?_ | with_reducible refine (SY.out _).mono ?_); rintro e w1 ⟨rfl, hb⟩; have hs := add_held32 (w := w) (va := vA) (vb := vB) (by assumption) hb; clear hb))
  have HE := Lib.hid hs
  go_wp2_with fail
  have HD2 : Hid (FB32 w w1.drew ∧ NatAt w1.drew vA a ∧ NatAt w1.drew vB b) := Lib.hid ⟨FB32.drew HE.out.1, HE.out.2.1.drew, HE.out.2.2.drew⟩
  clear hs
  go_region_held3 (fun w' => FB32 w w' ∧ NatAt w' vA a ∧ NatAt w' vB b) (first | assumption | exact HD2.out) (first | (go_at_call 36; (with_reducible refine (SX.out _).mono ?_); rintro e w2 ⟨rfl, hb⟩; have hs := add_held32 (w := w) (va := vA) (vb := vB) (by assumption) hb; clear hb) | (go_at_call 60; obtain ⟨_, nA, nB⟩ := (show FB32 w _ ∧ NatAt _ vA a ∧ NatAt _ vB b by assumption); (with_reducible refine (natSub 100 (by omega) nA nB KA.out (Nat.le_of_lt HC.out)).mono ?_); rintro e a6 ⟨vN, rfl, nN, bN⟩; have hs := add_held32 (w := w) (va := vA) (vb := vB) (by assumption) bN; clear bN nA nB) | (go_at_call 59; (with_reducible refine (one_any _).mono ?_); rintro e a7 ⟨vO, rfl, nO, bO⟩; have nN := nN.below bO; have hs := add_held32 (w := w) (va := vA) (vb := vB) (by assumption) bO; clear bO) | (go_at_call 57; (with_reducible refine (RR.out _ _ _ nN nO KN.out).mono ?_); rintro e a8 ⟨rfl, bR⟩; have hs := add_held32 (w := w) (va := vA) (vb := vB) (by assumption) bR; clear bR))
  go_wp2_with fail
  go_ret2
  exact ⟨rfl, FB32.below (And.left hs)⟩
set_option maxRecDepth 100000 in
set_option maxHeartbeats 4000000 in
theorem faddgtlt32_w (x y : Nat) (w : World) (hx : x < 4294967296) (hy : y < 4294967296) (nx : isNaN32 x = false) (ix : isInf32 x = false) (ny : isNaN32 y = false) (iy : isInf32 y = false) (ho : se32 y < se32 x) (hs : neg32 x ≠ neg32 y) (hc : val32 x < val32 y) : Calls Try.prog 33 #[.agg #[.int .i64 24, .int .i64 23, .int .i64 (-149), .int .u64 255, .int .u64 2147483648], .int .u64 (x : Int), .int .u64 (y : Int)] w (RetB (.tuple #[.int .u64 (((addf32 x y) : Nat) : Int), .bool true]) w) := by
  have SX := fun w => fneg32_any x w hx
  have SY := fun w => fneg32_any y w hy
  have NX := fun w => fnan32_any x w hx
  have NY := fun w => fnan32_any y w hy
  have IX := fun w => finf32_any x w hx
  have IY := fun w => finf32_any y w hy
  have MX := fun w => fsize32_any x w hx
  have MY := fun w => fsize32_any y w hy
  have HSa := Lib.hid (FB32.start0 w)
  rw [nx] at NX
  rw [ix] at IX
  rw [ny] at NY
  rw [iy] at IY
  have b1 := sm_lt32 x
  have b2 := sm_lt32 y
  have s1 := se_lt32 x
  have s2 := se_lt32 y
  have v1 := val_sm32 x
  have v2 := val_sm32 y
  obtain ⟨a, ha, ha2, ka⟩ : ∃ a, a = sm32 x * 2 ^ (se32 x - se32 y) ∧ val32 x = a * 2 ^ se32 y ∧ a < 2 ^ (32 * 100) := add_sz v1 (by omega) (by omega) (by omega)
  obtain ⟨b, hb, hb2, kb⟩ : ∃ b, b = sm32 y * 2 ^ 0 ∧ val32 y = b * 2 ^ se32 y ∧ b < 2 ^ (32 * 100) := add_sz v2 (by omega) (by omega) (by omega)
  have er := addf_diff32 (fun h => hs h.symm) hc
  rw [addf_comm32, er, ha2, hb2, ← Nat.sub_mul]
  have hcmp : a < b := by
    rw [ha2, hb2] at hc; exact Nat.lt_of_mul_lt_mul_right hc
  have CM := fun (w : World) (va vb : Value) (h1 : NatAt w va a) (h2 : NatAt w vb b) => natCmp 100 (by omega) h1 h2 ka kb
  rw [cmpI_lt hcmp] at CM
  have RR := fun (w : World) (va vb : Value) => add_round32 w (neg32 y) va vb (b - a) (se32 y) (100 + 1) (by omega) (by omega) (by omega)
  have kn := kn_sub (b := a) kb
  generalize rd32 (neg32 y) ((b - a) * 2 ^ se32 y) 1 = R at *
  have SH1 := fun (w : World) (va : Value) (h1 : NatAt w va (sm32 x)) => natShl (s := (se32 x - se32 y)) 100 (by omega) h1 (lt_100 (by omega)) (by omega)
  have SH2 := fun (w : World) (va : Value) (h1 : NatAt w va (sm32 y)) => natShl (s := 0) 100 (by omega) h1 (lt_100 (by omega)) (by omega)
  rw [← ha] at SH1
  rw [← hb] at SH2
  have t1 : -149 + (se32 y : Int) < -149 + (se32 x : Int) := by omega
  have d1 : -149 + (se32 y : Int) - (-149 + (se32 y : Int)) = ((0 : Nat) : Int) := by omega
  have d2 : -149 + (se32 x : Int) - (-149 + (se32 y : Int)) = ((se32 x - se32 y : Nat) : Int) := by omega
  have q2 : se32 x - se32 y < 255 := by omega
  generalize se32 x - se32 y = dd at *
  have lx : sm32 x < 18446744073709551616 := by omega
  have ly : sm32 y < 18446744073709551616 := by omega
  have hns : neg32 y = !neg32 x := bool_ne hs
  rw [hns] at SY
  rw [hns] at RR
  have LX := Lib.hid lx
  have LY := Lib.hid ly
  clear lx ly v1 v2 ha hb ha2 hb2 nx ix ny iy hs hc hns er
  generalize sm32 x = mx at *
  generalize sm32 y = my at *
  generalize se32 x = dx at *
  generalize se32 y = dy at *
  generalize neg32 x = sx at *
  have SX := Lib.hid SX
  have SY := Lib.hid SY
  have NX := Lib.hid NX
  have NY := Lib.hid NY
  have IX := Lib.hid IX
  have IY := Lib.hid IY
  have MX := Lib.hid MX
  have MY := Lib.hid MY
  have CM := Lib.hid CM
  have SH1 := Lib.hid SH1
  have SH2 := Lib.hid SH2
  have RR := Lib.hid RR
  have KA := Lib.hid ka
  have KB := Lib.hid kb
  have HC := Lib.hid hcmp
  have KN := Lib.hid kn
  clear hx hy ka kb hcmp ho kn
  go_enter Try.func33, Try.ntmps33
  go_wp2_with fail
  go_wp2_with fail
  refine (NX.out _).mono ?_
  rintro e v1 ⟨rfl, hb⟩
  have hs := FB32.step HSa.out hb
  have HS1 := Lib.hid hs
  clear hb
  obtain ⟨c0, c1, c2, c3, c4, c5, c6⟩ := hs
  clear c5 c6
  go_wp2_with fail
  refine (NY.out _).mono ?_
  rintro e v2 ⟨rfl, hb⟩
  have hs := FB32.step HS1.out hb
  have HS2 := Lib.hid hs
  clear hb c0 c1 c2 c3 c4
  obtain ⟨c0, c1, c2, c3, c4, c5, c6⟩ := hs
  clear c5 c6
  go_wp2_with fail
  refine (IX.out _).mono ?_
  rintro e v3 ⟨rfl, hb⟩
  have hs := FB32.step HS2.out hb
  have HS3 := Lib.hid hs
  clear hb c0 c1 c2 c3 c4
  obtain ⟨c0, c1, c2, c3, c4, c5, c6⟩ := hs
  clear c5 c6
  go_wp2_with fail
  refine (IX.out _).mono ?_
  rintro e v4 ⟨rfl, hb⟩
  have hs := FB32.step HS3.out hb
  have HS4 := Lib.hid hs
  clear hb c0 c1 c2 c3 c4
  obtain ⟨c0, c1, c2, c3, c4, c5, c6⟩ := hs
  clear c5 c6
  go_wp2_with fail
  refine (IY.out _).mono ?_
  rintro e v5 ⟨rfl, hb⟩
  have hs := FB32.step HS4.out hb
  have HS5 := Lib.hid hs
  clear hb c0 c1 c2 c3 c4
  obtain ⟨c0, c1, c2, c3, c4, c5, c6⟩ := hs
  clear c5 c6
  go_wp2_with fail
  refine (MX.out _).mono ?_
  rintro e v6 ⟨rfl, hb⟩
  have hs := FB32.step HS5.out hb
  have HS6 := Lib.hid hs
  clear hb c0 c1 c2 c3 c4
  obtain ⟨c0, c1, c2, c3, c4, c5, c6⟩ := hs
  clear c5 c6
  go_wp2_with fail
  refine (MY.out _).mono ?_
  rintro e v7 ⟨rfl, hb⟩
  have hs := FB32.step HS6.out hb
  have HS7 := Lib.hid hs
  clear hb c0 c1 c2 c3 c4
  obtain ⟨c0, c1, c2, c3, c4, c5, c6⟩ := hs
  clear c5 c6
  have HF0 := HS7
  clear c0 c1 c2 c3 c4
  go_wp2_with fail
  refine (natOf_any _ mx LX.out).mono ?_
  rintro e a1 ⟨va, rfl, na, ba⟩
  have C1 := Lib.hid (SH1.out _ _ na)
  have HF1 := Lib.hid (FB32.step HF0.out ba)
  clear na ba
  go_wp2_with fail
  refine (C1.out).mono ?_
  rintro e a2 ⟨vA, rfl, nA, bA⟩
  have HA := Lib.hid nA
  have HF2 := Lib.hid (FB32.step HF1.out bA)
  clear nA bA
  go_wp2_with fail
  refine (natOf_any _ my LY.out).mono ?_
  rintro e a3 ⟨vb, rfl, nb, bb⟩
  have C2 := Lib.hid (SH2.out _ _ nb)
  have HA := Lib.hid (HA.out.below bb)
  have HF3 := Lib.hid (FB32.step HF2.out bb)
  clear nb bb
  go_wp2_with fail
  refine (C2.out).mono ?_
  rintro e a4 ⟨vB, rfl, nB, bB⟩
  have HA := Lib.hid (HA.out.below bB)
  have HB := Lib.hid nB
  have hf4 := FB32.step HF3.out bB
  have HF4 := Lib.hid hf4
  clear nB bB
  obtain ⟨c0, c1, c2, c3, c4, c5, c6⟩ := hf4
  clear c5 c6
  have C3 := Lib.hid (CM.out _ _ _ HA.out HB.out)
  go_wp2_with fail
  refine (C3.out).mono ?_
  rintro e a5 ⟨rfl, rfl⟩
  have HD : Hid (FB32 w a4.drew ∧ NatAt a4.drew vA a ∧ NatAt a4.drew vB b) := Lib.hid ⟨FB32.drew HF4.out, HA.out.drew, HB.out.drew⟩
  go_wp2_with fail
  go_region_held3 (fun w' => FB32 w w' ∧ NatAt w' vA a ∧ NatAt w' vB b) (first | assumption | exact HD.out) (first | (go_at_call 36; (first | with_reducible refine (SX.out _).mono ?_ | with_reducible refine (SY.out _).mono ?_); rintro e w1 ⟨rfl, hb⟩; have hs := add_held32 (w := w) (va := vA) (vb := vB) (by assumption) hb; clear hb))
  have HE := Lib.hid hs
  go_wp2_with fail
  have HD2 : Hid (FB32 w w1.drew ∧ NatAt w1.drew vA a ∧ NatAt w1.drew vB b) := Lib.hid ⟨FB32.drew HE.out.1, HE.out.2.1.drew, HE.out.2.2.drew⟩
  clear hs
  go_region_held3 (fun w' => FB32 w w' ∧ NatAt w' vA a ∧ NatAt w' vB b) (first | assumption | exact HD2.out) (first | (go_at_call 36; (with_reducible refine (SY.out _).mono ?_); rintro e w2 ⟨rfl, hb⟩; have hs := add_held32 (w := w) (va := vA) (vb := vB) (by assumption) hb; clear hb) | (go_at_call 60; obtain ⟨_, nA, nB⟩ := (show FB32 w _ ∧ NatAt _ vA a ∧ NatAt _ vB b by assumption); (with_reducible refine (natSub 100 (by omega) nB nA KB.out (Nat.le_of_lt HC.out)).mono ?_); rintro e a6 ⟨vN, rfl, nN, bN⟩; have hs := add_held32 (w := w) (va := vA) (vb := vB) (by assumption) bN; clear bN nA nB) | (go_at_call 59; (with_reducible refine (one_any _).mono ?_); rintro e a7 ⟨vO, rfl, nO, bO⟩; have nN := nN.below bO; have hs := add_held32 (w := w) (va := vA) (vb := vB) (by assumption) bO; clear bO) | (go_at_call 57; (with_reducible refine (RR.out _ _ _ nN nO KN.out).mono ?_); rintro e a8 ⟨rfl, bR⟩; have hs := add_held32 (w := w) (va := vA) (vb := vB) (by assumption) bR; clear bR))
  go_wp2_with fail
  go_ret2
  exact ⟨rfl, FB32.below (And.left hs)⟩
set_option maxRecDepth 100000 in
set_option maxHeartbeats 4000000 in
theorem faddS32_any (x y : Nat) (w : World) (hx : x < 4294967296) (hy : y < 4294967296) : Calls Try.prog 33 #[.agg #[.int .i64 24, .int .i64 23, .int .i64 (-149), .int .u64 255, .int .u64 2147483648], .int .u64 (x : Int), .int .u64 (y : Int)] w (RetB (.tuple #[.int .u64 (((if nanAdd32 x y then 0 else add32 x y) : Nat) : Int), .bool (!nanAdd32 x y)]) w) := by
  have NX := fun w => fnan32_any x w hx
  have NY := fun w => fnan32_any y w hy
  have IX := fun w => finf32_any x w hx
  have IY := fun w => finf32_any y w hy
  have HSa := Lib.hid (FB32.start0 w)
  cases nx : isNaN32 x
  · cases ny : isNaN32 y
    · cases ix : isInf32 x
      · cases iy : isInf32 y
        · have e : nanAdd32 x y = false := by simp [nanAdd32, nx, ny, ix]
          have er : add32 x y = addf32 x y := add_fin32 nx ix ny iy
          rw [e, er]
          simp only [Bool.false_eq_true, if_false, Bool.not_false]
          rcases Nat.lt_or_ge (se32 y) (se32 x) with ho | ho
          · by_cases hs : neg32 x = neg32 y
            · exact faddgtsame32_w x y w hx hy nx ix ny iy ho hs
            · rcases Nat.lt_trichotomy (val32 x) (val32 y) with hc | hc | hc
              · exact faddgtlt32_w x y w hx hy nx ix ny iy ho hs hc
              · exact faddgteq32_w x y w hx hy nx ix ny iy ho hs hc
              · exact faddgtgt32_w x y w hx hy nx ix ny iy ho hs hc
          · by_cases hs : neg32 x = neg32 y
            · exact faddlesame32_w x y w hx hy nx ix ny iy ho hs
            · rcases Nat.lt_trichotomy (val32 x) (val32 y) with hc | hc | hc
              · exact faddlelt32_w x y w hx hy nx ix ny iy ho hs hc
              · exact faddleeq32_w x y w hx hy nx ix ny iy ho hs hc
              · exact faddlegt32_w x y w hx hy nx ix ny iy ho hs hc
        · skip
          have e : nanAdd32 x y = false := by simp [nanAdd32, nx, ny, ix, iy]
          rw [e]
          simp only [Bool.false_eq_true, if_false, Bool.not_false]
          rw [add_ir32 nx ny iy (.inl ix)]
          rw [nx] at NX
          rw [ny] at NY
          rw [ix] at IX
          rw [iy] at IY
          have NX := Lib.hid NX
          have NY := Lib.hid NY
          have IX := Lib.hid IX
          have IY := Lib.hid IY
          clear hx hy
          clear e nx ny ix iy
          go_enter Try.func33, Try.ntmps33
          go_wp2_with fail
          go_wp2_with fail
          refine (NX.out _).mono ?_
          rintro e v1 ⟨rfl, hb⟩
          have hs := FB32.step HSa.out hb
          have HS1 := Lib.hid hs
          clear hb
          obtain ⟨c0, c1, c2, c3, c4, c5, c6⟩ := hs
          clear c5 c6
          go_wp2_with fail
          refine (NY.out _).mono ?_
          rintro e v2 ⟨rfl, hb⟩
          have hs := FB32.step HS1.out hb
          have HS2 := Lib.hid hs
          clear hb c0 c1 c2 c3 c4
          obtain ⟨c0, c1, c2, c3, c4, c5, c6⟩ := hs
          clear c5 c6
          go_wp2_with fail
          refine (IX.out _).mono ?_
          rintro e v3 ⟨rfl, hb⟩
          have hs := FB32.step HS2.out hb
          have HS3 := Lib.hid hs
          clear hb c0 c1 c2 c3 c4
          obtain ⟨c0, c1, c2, c3, c4, c5, c6⟩ := hs
          clear c5 c6
          go_wp2_with fail
          refine (IX.out _).mono ?_
          rintro e v4 ⟨rfl, hb⟩
          have hs := FB32.step HS3.out hb
          have HS4 := Lib.hid hs
          clear hb c0 c1 c2 c3 c4
          obtain ⟨c0, c1, c2, c3, c4, c5, c6⟩ := hs
          clear c5 c6
          go_wp2_with fail
          refine (IY.out _).mono ?_
          rintro e v5 ⟨rfl, hb⟩
          have hs := FB32.step HS4.out hb
          have HS5 := Lib.hid hs
          clear hb c0 c1 c2 c3 c4
          obtain ⟨c0, c1, c2, c3, c4, c5, c6⟩ := hs
          clear c5 c6
          go_wp2_with fail
          go_ret2
          exact ⟨rfl, FB32.below HS5.out⟩
      · cases iy : isInf32 y
        · skip
          have e : nanAdd32 x y = false := by simp [nanAdd32, nx, ny, ix, iy]
          rw [e]
          simp only [Bool.false_eq_true, if_false, Bool.not_false]
          rw [add_il32 nx ny ix (.inl iy)]
          rw [nx] at NX
          rw [ny] at NY
          rw [ix] at IX
          rw [iy] at IY
          have NX := Lib.hid NX
          have NY := Lib.hid NY
          have IX := Lib.hid IX
          have IY := Lib.hid IY
          clear hx hy
          clear e nx ny ix iy
          go_enter Try.func33, Try.ntmps33
          go_wp2_with fail
          go_wp2_with fail
          refine (NX.out _).mono ?_
          rintro e v1 ⟨rfl, hb⟩
          have hs := FB32.step HSa.out hb
          have HS1 := Lib.hid hs
          clear hb
          obtain ⟨c0, c1, c2, c3, c4, c5, c6⟩ := hs
          clear c5 c6
          go_wp2_with fail
          refine (NY.out _).mono ?_
          rintro e v2 ⟨rfl, hb⟩
          have hs := FB32.step HS1.out hb
          have HS2 := Lib.hid hs
          clear hb c0 c1 c2 c3 c4
          obtain ⟨c0, c1, c2, c3, c4, c5, c6⟩ := hs
          clear c5 c6
          go_wp2_with fail
          refine (IX.out _).mono ?_
          rintro e v3 ⟨rfl, hb⟩
          have hs := FB32.step HS2.out hb
          have HS3 := Lib.hid hs
          clear hb c0 c1 c2 c3 c4
          obtain ⟨c0, c1, c2, c3, c4, c5, c6⟩ := hs
          clear c5 c6
          go_wp2_with fail
          refine (IY.out _).mono ?_
          rintro e v4 ⟨rfl, hb⟩
          have hs := FB32.step HS3.out hb
          have HS4 := Lib.hid hs
          clear hb c0 c1 c2 c3 c4
          obtain ⟨c0, c1, c2, c3, c4, c5, c6⟩ := hs
          clear c5 c6
          go_wp2_with fail
          refine (IX.out _).mono ?_
          rintro e v5 ⟨rfl, hb⟩
          have hs := FB32.step HS4.out hb
          have HS5 := Lib.hid hs
          clear hb c0 c1 c2 c3 c4
          obtain ⟨c0, c1, c2, c3, c4, c5, c6⟩ := hs
          clear c5 c6
          go_wp2_with fail
          go_ret2
          exact ⟨rfl, FB32.below HS5.out⟩
        · by_cases hxy : x = y
          · have exy : ((x : Int) != (y : Int)) = false := by simp [hxy]
            have e : nanAdd32 x y = false := by unfold nanAdd32; rw [nx, ny, ix, iy, decide_eq_false (fun h => h hxy)]; rfl
            rw [e]
            simp only [Bool.false_eq_true, if_false, Bool.not_false]
            rw [add_il32 nx ny ix (.inr hxy)]
            rw [nx] at NX
            rw [ny] at NY
            rw [ix] at IX
            rw [iy] at IY
            have NX := Lib.hid NX
            have NY := Lib.hid NY
            have IX := Lib.hid IX
            have IY := Lib.hid IY
            clear hx hy
            clear e nx ny ix iy hxy
            go_enter Try.func33, Try.ntmps33
            go_wp2_with fail
            go_wp2_with fail
            refine (NX.out _).mono ?_
            rintro e v1 ⟨rfl, hb⟩
            have hs := FB32.step HSa.out hb
            have HS1 := Lib.hid hs
            clear hb
            obtain ⟨c0, c1, c2, c3, c4, c5, c6⟩ := hs
            clear c5 c6
            go_wp2_with fail
            refine (NY.out _).mono ?_
            rintro e v2 ⟨rfl, hb⟩
            have hs := FB32.step HS1.out hb
            have HS2 := Lib.hid hs
            clear hb c0 c1 c2 c3 c4
            obtain ⟨c0, c1, c2, c3, c4, c5, c6⟩ := hs
            clear c5 c6
            go_wp2_with fail
            refine (IX.out _).mono ?_
            rintro e v3 ⟨rfl, hb⟩
            have hs := FB32.step HS2.out hb
            have HS3 := Lib.hid hs
            clear hb c0 c1 c2 c3 c4
            obtain ⟨c0, c1, c2, c3, c4, c5, c6⟩ := hs
            clear c5 c6
            go_wp2_with fail
            refine (IY.out _).mono ?_
            rintro e v4 ⟨rfl, hb⟩
            have hs := FB32.step HS3.out hb
            have HS4 := Lib.hid hs
            clear hb c0 c1 c2 c3 c4
            obtain ⟨c0, c1, c2, c3, c4, c5, c6⟩ := hs
            clear c5 c6
            go_wp2_with fail
            refine (IX.out _).mono ?_
            rintro e v5 ⟨rfl, hb⟩
            have hs := FB32.step HS4.out hb
            have HS5 := Lib.hid hs
            clear hb c0 c1 c2 c3 c4
            obtain ⟨c0, c1, c2, c3, c4, c5, c6⟩ := hs
            clear c5 c6
            go_wp2_with fail
            go_ret2
            exact ⟨rfl, FB32.below HS5.out⟩
          · have exy : ((x : Int) != (y : Int)) = true := by simp; omega
            have e : nanAdd32 x y = true := by simp [nanAdd32, nx, ny, ix, iy, hxy]
            rw [e]
            simp only [if_true, Bool.not_true]
            rw [nx] at NX
            rw [ny] at NY
            rw [ix] at IX
            rw [iy] at IY
            have NX := Lib.hid NX
            have NY := Lib.hid NY
            have IX := Lib.hid IX
            have IY := Lib.hid IY
            clear hx hy
            clear e nx ny ix iy hxy
            go_enter Try.func33, Try.ntmps33
            go_wp2_with fail
            go_wp2_with fail
            refine (NX.out _).mono ?_
            rintro e v1 ⟨rfl, hb⟩
            have hs := FB32.step HSa.out hb
            have HS1 := Lib.hid hs
            clear hb
            obtain ⟨c0, c1, c2, c3, c4, c5, c6⟩ := hs
            clear c5 c6
            go_wp2_with fail
            refine (NY.out _).mono ?_
            rintro e v2 ⟨rfl, hb⟩
            have hs := FB32.step HS1.out hb
            have HS2 := Lib.hid hs
            clear hb c0 c1 c2 c3 c4
            obtain ⟨c0, c1, c2, c3, c4, c5, c6⟩ := hs
            clear c5 c6
            go_wp2_with fail
            refine (IX.out _).mono ?_
            rintro e v3 ⟨rfl, hb⟩
            have hs := FB32.step HS2.out hb
            have HS3 := Lib.hid hs
            clear hb c0 c1 c2 c3 c4
            obtain ⟨c0, c1, c2, c3, c4, c5, c6⟩ := hs
            clear c5 c6
            go_wp2_with fail
            refine (IY.out _).mono ?_
            rintro e v4 ⟨rfl, hb⟩
            have hs := FB32.step HS3.out hb
            have HS4 := Lib.hid hs
            clear hb c0 c1 c2 c3 c4
            obtain ⟨c0, c1, c2, c3, c4, c5, c6⟩ := hs
            clear c5 c6
            go_wp2_with fail
            go_ret2
            exact ⟨rfl, FB32.below HS4.out⟩
    · have e : nanAdd32 x y = true := by simp [nanAdd32, ny]
      rw [e]
      simp only [if_true, Bool.not_true]
      rw [nx] at NX
      rw [ny] at NY
      have NX := Lib.hid NX
      have NY := Lib.hid NY
      clear hx hy IX IY
      clear e nx ny
      go_enter Try.func33, Try.ntmps33
      go_wp2_with fail
      go_wp2_with fail
      refine (NX.out _).mono ?_
      rintro e v1 ⟨rfl, hb⟩
      have hs := FB32.step HSa.out hb
      have HS1 := Lib.hid hs
      clear hb
      obtain ⟨c0, c1, c2, c3, c4, c5, c6⟩ := hs
      clear c5 c6
      go_wp2_with fail
      refine (NY.out _).mono ?_
      rintro e v2 ⟨rfl, hb⟩
      have hs := FB32.step HS1.out hb
      have HS2 := Lib.hid hs
      clear hb c0 c1 c2 c3 c4
      obtain ⟨c0, c1, c2, c3, c4, c5, c6⟩ := hs
      clear c5 c6
      go_wp2_with fail
      go_ret2
      exact ⟨rfl, FB32.below HS2.out⟩
  · have e : nanAdd32 x y = true := by simp [nanAdd32, nx]
    rw [e]
    simp only [if_true, Bool.not_true]
    rw [nx] at NX
    have NX := Lib.hid NX
    clear hx hy NY IX IY
    clear e nx
    go_enter Try.func33, Try.ntmps33
    go_wp2_with fail
    go_wp2_with fail
    refine (NX.out _).mono ?_
    rintro e v1 ⟨rfl, hb⟩
    have hs := FB32.step HSa.out hb
    have HS1 := Lib.hid hs
    clear hb
    obtain ⟨c0, c1, c2, c3, c4, c5, c6⟩ := hs
    clear c5 c6
    go_wp2_with fail
    go_ret2
    exact ⟨rfl, FB32.below HS1.out⟩
end Go.Proofs.Ytdadcbjhjmdheaa.SF
