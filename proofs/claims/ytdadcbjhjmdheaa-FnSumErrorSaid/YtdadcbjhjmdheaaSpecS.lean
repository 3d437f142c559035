/-
  The walks through the reference's sums of exact numbers: side, SameSum.
-/
import Derived.Test.YtdadcbjhjmdheaaSpecR
namespace Go.Proofs.Ytdadcbjhjmdheaa.SF
open Go.ChangeShapes Go.WideShapes Go.ChangeAt Go.RowKit
set_option linter.unusedVariables false

theorem mul_pow_lt2 {m e a : Nat} (h : m < 2 ^ a) : m * 2 ^ e < 2 ^ (a + e) := by
  rw [Nat.pow_add]; exact Nat.mul_lt_mul_of_pos_right h (two_pow_pos e)
def sdL (x n : Nat) : Nat := if neg64 x then n else n + val64 x
def sdR (x n : Nat) : Nat := if neg64 x then n + val64 x else n
theorem val64_lt (x : Nat) {K : Nat} (hK : 70 ≤ K) : val64 x < 2 ^ (32 * K) := by
  have a := sm_lt64 x
  have c := se_lt64 x
  rw [val_sm64]
  have h1 := mul_pow_lt2 (m := sm64 x) (e := se64 x) (a := 53) a
  exact Nat.lt_of_lt_of_le h1 (Nat.pow_le_pow_right (by omega) (by omega))
set_option maxRecDepth 100000 in
set_option maxHeartbeats 2000000 in
theorem fside64_any (x l r : Nat) (vl vr : Value) (w : World) (hx : x < 18446744073709551616) (hl : NatAt w vl l) (hr : NatAt w vr r) (K : Nat) (hK1 : 70 ≤ K) (hK : K ≤ 2000) (kl : l < 2 ^ (32 * K)) (kr : r < 2 ^ (32 * K)) :
    Calls Try.prog 61 #[.agg #[.int .i64 53, .int .i64 52, .int .i64 (-1074), .int .u64 2047, .int .u64 9223372036854775808], .int .u64 (x : Int), vl, vr] w (fun e w' => ∃ v1 v2, e = .returned (.tuple #[v1, v2]) ∧ NatAt w' v1 (sdL x l) ∧ NatAt w' v2 (sdR x r) ∧ Below w.heap.size w w') := by
  have MX := Lib.hid fun w => fsize64_any x w hx
  have SX := fun w => fneg64_any x w hx
  have HS0 := Lib.hid (FB64.start0 w)
  have b1 := sm_lt64 x
  have b2 := se_lt64 x
  have kv : val64 x < 2 ^ (32 * K) := val64_lt x hK1
  have lm : sm64 x < 18446744073709551616 := by omega
  have SH := fun (w : World) (va : Value) (h1 : NatAt w va (sm64 x)) => natShl (s := se64 x) 100 (by omega) h1 (lt_100 lm) (by omega)
  rw [← val_sm64] at SH
  have s1 : IntKind.i64.wrap (-1074 + (se64 x : Int) - -1074) = (se64 x : Int) := by rw [IntWalk.i64_in _ (by omega)]; omega
  have s2 : IntKind.i64.wrap (-1074 + (se64 x : Int) + 1074) = (se64 x : Int) := by rw [IntWalk.i64_in _ (by omega)]; omega
  have AL := Lib.hid fun (w : World) (va vb : Value) (h1 : NatAt w va l) (h2 : NatAt w vb (val64 x)) => natAdd K (by omega) h1 h2 kl kv
  have AR := Lib.hid fun (w : World) (va vb : Value) (h1 : NatAt w va r) (h2 : NatAt w vb (val64 x)) => natAdd K (by omega) h1 h2 kr kv
  have HL0 := Lib.hid (hl.below ((Below.refl _ w).alloc (Nat.le_refl _) (.cells #[.int .i64 53, .int .i64 52, .int .i64 (-1074), .int .u64 2047, .int .u64 9223372036854775808] 26)))
  have HR0 := Lib.hid (hr.below ((Below.refl _ w).alloc (Nat.le_refl _) (.cells #[.int .i64 53, .int .i64 52, .int .i64 (-1074), .int .u64 2047, .int .u64 9223372036854775808] 26)))
  unfold sdL sdR
  generalize val64 x = vv at *
  generalize sm64 x = m at *
  generalize se64 x = s at *
  generalize neg64 x = ng at *
  have LM := Lib.hid lm
  have SX := Lib.hid SX
  have SH := Lib.hid SH
  clear hx hl hr b1 b2 kl kr kv lm
  cases ng
  · skip
    simp only [Bool.false_eq_true, if_false]
    go_enter Try.func61, Try.ntmps61
    go_wp2_with fail
    refine (MX.out _).mono ?_
    rintro e w1 ⟨rfl, hb⟩
    have hs := FB64.step HS0.out hb
    have HS1 := Lib.hid hs
    have HL1 := Lib.hid (HL0.out.below hb)
    have HR1 := Lib.hid (HR0.out.below hb)
    clear hb
    clear hs
    have HD : Hid (FB64 w w1.drew ∧ NatAt w1.drew vl l ∧ NatAt w1.drew vr r) := Lib.hid ⟨FB64.drew HS1.out, HL1.out.drew, HR1.out.drew⟩
    go_wp2_with fail
    go_region_held3 (fun w' => FB64 w w' ∧ NatAt w' vl l ∧ NatAt w' vr r) (first | assumption | exact HD.out) (first | (go_at_call 55; (with_reducible refine (natOf_any _ m LM.out).mono ?_); rintro e a1 ⟨vn, rfl, nN, bN⟩; have hs := add_held64 (w := w) (va := vl) (vb := vr) (by assumption) bN; clear bN) | (go_at_call 54; (with_reducible refine (SH.out _ _ nN).mono ?_); rintro e a2 ⟨vS, rfl, nS, bS⟩; have hs := add_held64 (w := w) (va := vl) (vb := vr) (by assumption) bS; clear bS))
    have HE := Lib.hid hs
    have NS := Lib.hid nS
    clear nS
    obtain ⟨⟨c0, c1, c2, c3, c4, c5, c6⟩, g1, g2⟩ := hs
    clear c5 c6 g1 g2
    go_wp2_with fail
    refine (SX.out _).mono ?_
    rintro e a3 ⟨rfl, hb⟩
    have HE2 := Lib.hid (add_held64 (w := w) (va := vl) (vb := vr) HE.out hb)
    have NS2 := Lib.hid (NS.out.below hb)
    clear hb c0 c1 c2 c3 c4
    go_wp2_with fail
    refine (AL.out _ _ _ HE2.out.2.1 NS2.out).mono ?_
    rintro e a4 ⟨v4, rfl, n4, b4⟩
    have HE4 := Lib.hid (add_held64 (w := w) (va := vl) (vb := vr) HE2.out b4)
    have N4 := Lib.hid n4
    clear n4 b4
    go_wp2_with fail
    go_ret2
    exact ⟨_, _, rfl, N4.out, HE4.out.2.2, FB64.below HE4.out.1⟩
  · skip
    simp only [if_true]
    go_enter Try.func61, Try.ntmps61
    go_wp2_with fail
    refine (MX.out _).mono ?_
    rintro e w1 ⟨rfl, hb⟩
    have hs := FB64.step HS0.out hb
    have HS1 := Lib.hid hs
    have HL1 := Lib.hid (HL0.out.below hb)
    have HR1 := Lib.hid (HR0.out.below hb)
    clear hb
    clear hs
    have HD : Hid (FB64 w w1.drew ∧ NatAt w1.drew vl l ∧ NatAt w1.drew vr r) := Lib.hid ⟨FB64.drew HS1.out, HL1.out.drew, HR1.out.drew⟩
    go_wp2_with fail
    go_region_held3 (fun w' => FB64 w w' ∧ NatAt w' vl l ∧ NatAt w' vr r) (first | assumption | exact HD.out) (first | (go_at_call 55; (with_reducible refine (natOf_any _ m LM.out).mono ?_); rintro e a1 ⟨vn, rfl, nN, bN⟩; have hs := add_held64 (w := w) (va := vl) (vb := vr) (by assumption) bN; clear bN) | (go_at_call 54; (with_reducible refine (SH.out _ _ nN).mono ?_); rintro e a2 ⟨vS, rfl, nS, bS⟩; have hs := add_held64 (w := w) (va := vl) (vb := vr) (by assumption) bS; clear bS))
    have HE := Lib.hid hs
    have NS := Lib.hid nS
    clear nS
    obtain ⟨⟨c0, c1, c2, c3, c4, c5, c6⟩, g1, g2⟩ := hs
    clear c5 c6 g1 g2
    go_wp2_with fail
    refine (SX.out _).mono ?_
    rintro e a3 ⟨rfl, hb⟩
    have HE2 := Lib.hid (add_held64 (w := w) (va := vl) (vb := vr) HE.out hb)
    have NS2 := Lib.hid (NS.out.below hb)
    clear hb c0 c1 c2 c3 c4
    go_wp2_with fail
    refine (AR.out _ _ _ HE2.out.2.2 NS2.out).mono ?_
    rintro e a4 ⟨v4, rfl, n4, b4⟩
    have HE4 := Lib.hid (add_held64 (w := w) (va := vl) (vb := vr) HE2.out b4)
    have N4 := Lib.hid n4
    clear n4 b4
    go_wp2_with fail
    go_ret2
    exact ⟨_, _, rfl, HE4.out.2.1, N4.out, FB64.below HE4.out.1⟩
theorem nat_nil (w : World) : NatAt w (.slice none 0 0) 0 := ⟨none, 0, 0, [], rfl, ⟨rfl, Nat.le_refl _, by simp, fun h => by omega⟩, rfl, .inl rfl⟩
theorem sd_lt {x n K : Nat} (hK : 70 ≤ K) (h : n < 2 ^ (32 * K)) : sdL x n < 2 ^ (32 * (K + 1)) ∧ sdR x n < 2 ^ (32 * (K + 1)) := by
  have h1 := kn_add h (val64_lt x hK)
  unfold sdL sdR
  split
  · exact ⟨by omega, h1⟩
  · exact ⟨h1, by omega⟩
theorem sd_eq {a b c d : Nat} (h : sv64 a + sv64 b = sv64 c + sv64 d) : sdR d (sdR c (sdL b (sdL a 0))) = sdL d (sdL c (sdR b (sdR a 0))) := by
  rw [sv_sk64, sv_sk64, sv_sk64, sv_sk64] at h
  unfold sdL sdR
  unfold sk at h
  revert h
  cases neg64 a <;> cases neg64 b <;> cases neg64 c <;> cases neg64 d <;> simp only [Bool.false_eq_true, if_false, if_true] <;> intro h <;> omega
set_option maxRecDepth 100000 in
set_option maxHeartbeats 2000000 in
theorem fsame64_any (a b c d : Nat) (w : World) (ha : a < 18446744073709551616) (hb : b < 18446744073709551616) (hc : c < 18446744073709551616) (hd : d < 18446744073709551616) (h : sv64 a + sv64 b = sv64 c + sv64 d) :
    Calls Try.prog 34 #[.agg #[.int .i64 53, .int .i64 52, .int .i64 (-1074), .int .u64 2047, .int .u64 9223372036854775808], .int .u64 (a : Int), .int .u64 (b : Int), .int .u64 (c : Int), .int .u64 (d : Int)] w (RetB (.bool true) w) := by
  have e := sd_eq h
  obtain ⟨K, hK⟩ : ∃ K, K = 70 := ⟨_, rfl⟩
  have k0 : 0 < 2 ^ (32 * K) := two_pow_pos _
  have k1 := sd_lt (x := a) (show 70 ≤ K by omega) k0
  have k2l := (sd_lt (x := b) (show 70 ≤ K + 1 by omega) k1.1).1
  have k2r := (sd_lt (x := b) (show 70 ≤ K + 1 by omega) k1.2).2
  have k3r := (sd_lt (x := c) (show 70 ≤ K + 1 + 1 by omega) k2r).1
  have k3l := (sd_lt (x := c) (show 70 ≤ K + 1 + 1 by omega) k2l).2
  have k4r := (sd_lt (x := d) (show 70 ≤ K + 1 + 1 + 1 by omega) k3r).1
  have k4l := (sd_lt (x := d) (show 70 ≤ K + 1 + 1 + 1 by omega) k3l).2
  have S1 := Lib.hid fun (w : World) (vl vr : Value) (h1 : NatAt w vl 0) (h2 : NatAt w vr 0) => fside64_any a 0 0 vl vr w ha h1 h2 K (by omega) (by omega) k0 k0
  have S2 := fun (w : World) (vl vr : Value) (h1 : NatAt w vl (sdL a 0)) (h2 : NatAt w vr (sdR a 0)) => fside64_any b _ _ vl vr w hb h1 h2 (K + 1) (by omega) (by omega) k1.1 k1.2
  have S3 := fun (w : World) (vl vr : Value) (h1 : NatAt w vl (sdR b (sdR a 0))) (h2 : NatAt w vr (sdL b (sdL a 0))) => fside64_any c _ _ vl vr w hc h1 h2 (K + 1 + 1) (by omega) (by omega) k2r k2l
  have S4 := fun (w : World) (vl vr : Value) (h1 : NatAt w vl (sdL c (sdR b (sdR a 0)))) (h2 : NatAt w vr (sdR c (sdL b (sdL a 0)))) => fside64_any d _ _ vl vr w hd h1 h2 (K + 1 + 1 + 1) (by omega) (by omega) k3r k3l
  have CM := fun (w : World) (vl vr : Value) (h1 : NatAt w vl (sdR d (sdR c (sdL b (sdL a 0))))) (h2 : NatAt w vr (sdL d (sdL c (sdR b (sdR a 0))))) => natCmp (K + 1 + 1 + 1 + 1) (by omega) h1 h2 k4l k4r
  rw [e, cmpI_self] at CM
  rw [e] at S4
  have HS0 := Lib.hid (FB64.start0 w)
  generalize sdL d (sdL c (sdR b (sdR a 0))) = n4 at *
  generalize sdL c (sdR b (sdR a 0)) = r3 at *
  generalize sdR c (sdL b (sdL a 0)) = l3 at *
  generalize sdR b (sdR a 0) = r2 at *
  generalize sdL b (sdL a 0) = l2 at *
  generalize sdR a 0 = r1 at *
  generalize sdL a 0 = l1 at *
  have S2 := Lib.hid S2
  have S3 := Lib.hid S3
  have S4 := Lib.hid S4
  have CM := Lib.hid CM
  clear ha hb hc hd h e hK k0 k1 k2l k2r k3l k3r k4l k4r
  go_enter Try.func34, Try.ntmps34
  go_wp2_with fail
  refine (S1.out _ _ _ (nat_nil _) (nat_nil _)).mono ?_
  rintro e w1 ⟨v1, v2, rfl, n1, n2, hb⟩
  have hs := FB64.step HS0.out hb
  have HS1 := Lib.hid hs
  have N1 := Lib.hid n1
  have N2 := Lib.hid n2
  clear hb n1 n2
  obtain ⟨c0, c1, c2, c3, c4, c5, c6⟩ := hs
  clear c5 c6
  go_wp2_with fail
  refine (S2.out _ _ _ N1.out N2.out).mono ?_
  rintro e w2 ⟨v3, v4, rfl, n1, n2, hb⟩
  have hs := FB64.step HS1.out hb
  have HS2 := Lib.hid hs
  have N3 := Lib.hid n1
  have N4 := Lib.hid n2
  clear hb n1 n2 c0 c1 c2 c3 c4
  obtain ⟨c0, c1, c2, c3, c4, c5, c6⟩ := hs
  clear c5 c6
  go_wp2_with fail
  refine (S3.out _ _ _ N4.out N3.out).mono ?_
  rintro e w3 ⟨v5, v6, rfl, n1, n2, hb⟩
  have hs := FB64.step HS2.out hb
  have HS3 := Lib.hid hs
  have N5 := Lib.hid n1
  have N6 := Lib.hid n2
  clear hb n1 n2 c0 c1 c2 c3 c4
  obtain ⟨c0, c1, c2, c3, c4, c5, c6⟩ := hs
  clear c5 c6
  go_wp2_with fail
  refine (S4.out _ _ _ N5.out N6.out).mono ?_
  rintro e w4 ⟨v7, v8, rfl, n1, n2, hb⟩
  have hs := FB64.step HS3.out hb
  have HS4 := Lib.hid hs
  have N7 := Lib.hid n1
  have N8 := Lib.hid n2
  clear hb n1 n2 c0 c1 c2 c3 c4 hs
  go_wp2_with fail
  refine (CM.out _ _ _ N8.out N7.out).mono ?_
  rintro e w5 ⟨rfl, rfl⟩
  go_wp2_with fail
  go_ret
  exact ⟨rfl, FB64.below HS4.out⟩
end Go.Proofs.Ytdadcbjhjmdheaa.SF
