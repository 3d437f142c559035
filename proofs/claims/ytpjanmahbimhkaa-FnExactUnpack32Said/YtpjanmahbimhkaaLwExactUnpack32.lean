/-
  The walk of a law.
-/
import Derived.Test.YtpjanmahbimhkaaUnpL
import Derived.Test.YtpjanmahbimhkaaFmtB
import Derived.Test.YtpjanmahbimhkaaFrame
import Derived.Test.YtpjanmahbimhkaaPowK
namespace Go.Proofs.Ytpjanmahbimhkaa.SF
open Go.ChangeShapes Go.WideShapes Go.ChangeAt Go.RowKit
set_option linter.unusedVariables false
set_option maxRecDepth 100000 in
set_option maxHeartbeats 4000000 in
theorem fnExactUnpack32 (x : Nat) (w : World) (hx : x < 4294967296) : Calls Try.prog 10 #[.int .u32 (x : Int)] w (LawPost w) := by
  have UPK := fun w => implUnpack32 x w hx
  have IX := fun w => finf32_any x w hx
  have NX := fun w => fnan32_any x w hx
  have FX := fun w => ffin32_any x w hx
  have SX := fun w => fsize32_any x w hx
  have es := sgn_bits32 hx
  have cx : IntKind.u64.wrap (x : Int) = (x : Int) := wrap_u64_nat (by omega)
  have hS := unp_law32 x
  have hI := fin_nan32 (x := x)
  have hN := fin_of32 (x := x)
  have hsm := sm_lt32 x
  have hse := se_lt32 x
  generalize sgn32 (neg32 x) 0 = s at *
  generalize um32 x = m at *
  generalize ue32 x = ex at *
  generalize isInf32 x = i at *
  generalize isNaN32 x = n at *
  generalize fin32 x = fi at *
  generalize sm32 x = sm at *
  generalize se32 x = se at *
  have ess : ((s : Int) != (s : Int)) = false := bne_self_eq_false _
  clear hx
  cases fi
  · have hk : (i = true ∧ n = false) ∨ (i = false ∧ n = true) ∨ (i = true ∧ n = true) := by
      cases i <;> cases n <;> simp at hN ⊢
    clear hS hI hN SX hsm hse
    rcases hk with ⟨rfl, rfl⟩ | ⟨rfl, rfl⟩ | ⟨rfl, rfl⟩
    · skip
      have UPK := Lib.hid UPK
      have IX := Lib.hid IX
      have NX := Lib.hid NX
      have FX := Lib.hid FX
      have B0 := Lib.hid (Below.refl w.heap.size w)
      go_enter Try.func10, Try.ntmps10
      go_wp2_with fail
      refine (fmt32_any _).mono ?_
      rintro e u1 ⟨rfl, hb⟩
      have B1 := Lib.hid (below_trans' B0.out hb)
      clear hb
      have HS0 := Lib.hid (FB32.start0 u1)
      go_wp2_with fail
      refine (UPK.out _).mono ?_
      rintro e' u2 ⟨rfl, hb⟩
      have HP0 := Lib.hid (UPW32.drew (UPW32.start (s : Int) (m : Int) ex true false (FB32.step HS0.out hb)))
      clear hb
      go_wp2_with fail
      first
        | go_region_held3 (fun w' => UPW32 (s : Int) (m : Int) ex true false u1 u2 w') (first | assumption | exact HP0.out) (first | (go_at_call 32; (with_reducible refine (IX.out _).mono ?_); rintro e' q ⟨rfl, hb⟩; have hs := UPW32.step (s := (s : Int)) (m := (m : Int)) (e := ex) (i := true) (n := false) (u1 := u1) (u2 := u2) (by assumption) hb; clear hb) | (go_at_call 33; (with_reducible refine (NX.out _).mono ?_); rintro e' q ⟨rfl, hb⟩; have hs := UPW32.step (s := (s : Int)) (m := (m : Int)) (e := ex) (i := true) (n := false) (u1 := u1) (u2 := u2) (by assumption) hb; clear hb))
        | fail
      have HS1 := Lib.hid hs
      obtain ⟨⟨c0, c1, c2, c3, c4, c5, c6⟩, d0, d1, d2, d3, d4, d5⟩ := hs
      clear c5 c6 d5
      go_wp2_with fail
      refine (FX.out _).mono ?_
      rintro e' v1 ⟨rfl, hb⟩
      have hs := UPW32.step (s := (s : Int)) (m := (m : Int)) (e := ex) (i := true) (n := false) (u1 := u1) (u2 := u2) HS1.out hb
      have HS2 := Lib.hid hs
      clear hb
      clear c0 c1 c2 c3 c4 d0 d1 d2 d3 d4
      go_wp2_with fail
      go_ret
      exact ⟨rfl, below_trans' B1.out (FB32.below (And.left HS2.out))⟩
    · skip
      have UPK := Lib.hid UPK
      have IX := Lib.hid IX
      have NX := Lib.hid NX
      have FX := Lib.hid FX
      have B0 := Lib.hid (Below.refl w.heap.size w)
      go_enter Try.func10, Try.ntmps10
      go_wp2_with fail
      refine (fmt32_any _).mono ?_
      rintro e u1 ⟨rfl, hb⟩
      have B1 := Lib.hid (below_trans' B0.out hb)
      clear hb
      have HS0 := Lib.hid (FB32.start0 u1)
      go_wp2_with fail
      refine (UPK.out _).mono ?_
      rintro e' u2 ⟨rfl, hb⟩
      have HP0 := Lib.hid (UPW32.drew (UPW32.start (s : Int) (m : Int) ex false true (FB32.step HS0.out hb)))
      clear hb
      go_wp2_with fail
      first
        | go_region_held3 (fun w' => UPW32 (s : Int) (m : Int) ex false true u1 u2 w') (first | assumption | exact HP0.out) (first | (go_at_call 32; (with_reducible refine (IX.out _).mono ?_); rintro e' q ⟨rfl, hb⟩; have hs := UPW32.step (s := (s : Int)) (m := (m : Int)) (e := ex) (i := false) (n := true) (u1 := u1) (u2 := u2) (by assumption) hb; clear hb) | (go_at_call 33; (with_reducible refine (NX.out _).mono ?_); rintro e' q ⟨rfl, hb⟩; have hs := UPW32.step (s := (s : Int)) (m := (m : Int)) (e := ex) (i := false) (n := true) (u1 := u1) (u2 := u2) (by assumption) hb; clear hb))
        | fail
      have HS1 := Lib.hid hs
      obtain ⟨⟨c0, c1, c2, c3, c4, c5, c6⟩, d0, d1, d2, d3, d4, d5⟩ := hs
      clear c5 c6 d5
      go_wp2_with fail
      refine (FX.out _).mono ?_
      rintro e' v1 ⟨rfl, hb⟩
      have hs := UPW32.step (s := (s : Int)) (m := (m : Int)) (e := ex) (i := false) (n := true) (u1 := u1) (u2 := u2) HS1.out hb
      have HS2 := Lib.hid hs
      clear hb
      clear c0 c1 c2 c3 c4 d0 d1 d2 d3 d4
      go_wp2_with fail
      go_ret
      exact ⟨rfl, below_trans' B1.out (FB32.below (And.left HS2.out))⟩
    · skip
      have UPK := Lib.hid UPK
      have IX := Lib.hid IX
      have NX := Lib.hid NX
      have FX := Lib.hid FX
      have B0 := Lib.hid (Below.refl w.heap.size w)
      go_enter Try.func10, Try.ntmps10
      go_wp2_with fail
      refine (fmt32_any _).mono ?_
      rintro e u1 ⟨rfl, hb⟩
      have B1 := Lib.hid (below_trans' B0.out hb)
      clear hb
      have HS0 := Lib.hid (FB32.start0 u1)
      go_wp2_with fail
      refine (UPK.out _).mono ?_
      rintro e' u2 ⟨rfl, hb⟩
      have HP0 := Lib.hid (UPW32.drew (UPW32.start (s : Int) (m : Int) ex true true (FB32.step HS0.out hb)))
      clear hb
      go_wp2_with fail
      first
        | go_region_held3 (fun w' => UPW32 (s : Int) (m : Int) ex true true u1 u2 w') (first | assumption | exact HP0.out) (first | (go_at_call 32; (with_reducible refine (IX.out _).mono ?_); rintro e' q ⟨rfl, hb⟩; have hs := UPW32.step (s := (s : Int)) (m := (m : Int)) (e := ex) (i := true) (n := true) (u1 := u1) (u2 := u2) (by assumption) hb; clear hb) | (go_at_call 33; (with_reducible refine (NX.out _).mono ?_); rintro e' q ⟨rfl, hb⟩; have hs := UPW32.step (s := (s : Int)) (m := (m : Int)) (e := ex) (i := true) (n := true) (u1 := u1) (u2 := u2) (by assumption) hb; clear hb))
        | fail
      have HS1 := Lib.hid hs
      obtain ⟨⟨c0, c1, c2, c3, c4, c5, c6⟩, d0, d1, d2, d3, d4, d5⟩ := hs
      clear c5 c6 d5
      go_wp2_with fail
      refine (FX.out _).mono ?_
      rintro e' v1 ⟨rfl, hb⟩
      have hs := UPW32.step (s := (s : Int)) (m := (m : Int)) (e := ex) (i := true) (n := true) (u1 := u1) (u2 := u2) HS1.out hb
      have HS2 := Lib.hid hs
      clear hb
      clear c0 c1 c2 c3 c4 d0 d1 d2 d3 d4
      go_wp2_with fail
      go_ret
      exact ⟨rfl, below_trans' B1.out (FB32.below (And.left HS2.out))⟩
  · obtain ⟨rfl, rfl⟩ := hI rfl
    obtain ⟨hS1, hS2⟩ := hS rfl
    clear hI hN hS
    by_cases h0 : sm = 0
    · have hm := hS1 h0
      have t0 : ((sm : Int) == 0) = true := by rw [h0]; rfl
      have t1 : ((m : Int) == 0) = true := by rw [hm]; rfl
      clear hS1 hS2 hsm hse h0 hm
      have UPK := Lib.hid UPK
      have IX := Lib.hid IX
      have NX := Lib.hid NX
      have FX := Lib.hid FX
      have SX := Lib.hid SX
      have B0 := Lib.hid (Below.refl w.heap.size w)
      go_enter Try.func10, Try.ntmps10
      go_wp2_with fail
      refine (fmt32_any _).mono ?_
      rintro e u1 ⟨rfl, hb⟩
      have B1 := Lib.hid (below_trans' B0.out hb)
      clear hb
      have HS0 := Lib.hid (FB32.start0 u1)
      go_wp2_with fail
      refine (UPK.out _).mono ?_
      rintro e' u2 ⟨rfl, hb⟩
      have HP0 := Lib.hid (UPW32.drew (UPW32.start (s : Int) (m : Int) ex false false (FB32.step HS0.out hb)))
      clear hb
      go_wp2_with fail
      first
        | go_region_held3 (fun w' => UPW32 (s : Int) (m : Int) ex false false u1 u2 w') (first | assumption | exact HP0.out) (first | (go_at_call 32; (with_reducible refine (IX.out _).mono ?_); rintro e' q ⟨rfl, hb⟩; have hs := UPW32.step (s := (s : Int)) (m := (m : Int)) (e := ex) (i := false) (n := false) (u1 := u1) (u2 := u2) (by assumption) hb; clear hb) | (go_at_call 33; (with_reducible refine (NX.out _).mono ?_); rintro e' q ⟨rfl, hb⟩; have hs := UPW32.step (s := (s : Int)) (m := (m : Int)) (e := ex) (i := false) (n := false) (u1 := u1) (u2 := u2) (by assumption) hb; clear hb))
        | fail
      have HS1 := Lib.hid hs
      obtain ⟨⟨c0, c1, c2, c3, c4, c5, c6⟩, d0, d1, d2, d3, d4, d5⟩ := hs
      clear c5 c6 d5
      go_wp2_with fail
      refine (FX.out _).mono ?_
      rintro e' v1 ⟨rfl, hb⟩
      have hs := UPW32.step (s := (s : Int)) (m := (m : Int)) (e := ex) (i := false) (n := false) (u1 := u1) (u2 := u2) HS1.out hb
      have HS2 := Lib.hid hs
      clear hb
      clear c0 c1 c2 c3 c4 d0 d1 d2 d3 d4
      obtain ⟨⟨c0, c1, c2, c3, c4, c5, c6⟩, d0, d1, d2, d3, d4, d5⟩ := hs
      clear c5 c6 d5
      go_wp2_with fail
      refine (SX.out _).mono ?_
      rintro e' v2 ⟨rfl, hb⟩
      have hs := UPW32.step (s := (s : Int)) (m := (m : Int)) (e := ex) (i := false) (n := false) (u1 := u1) (u2 := u2) HS2.out hb
      have HS3 := Lib.hid hs
      clear hb
      clear c0 c1 c2 c3 c4 d0 d1 d2 d3 d4
      obtain ⟨⟨c0, c1, c2, c3, c4, c5, c6⟩, d0, d1, d2, d3, d4, d5⟩ := hs
      clear c5 c6 d5
      go_wp2_with fail
      go_ret
      exact ⟨rfl, below_trans' B1.out (FB32.below (And.left HS3.out))⟩
    · obtain ⟨q1, q2, q3, q4, q5⟩ := hS2 h0
      have t0 : ((sm : Int) == 0) = false := beq_eq_false_iff_ne.mpr (by omega)
      have f1 : (m : Int) / 8388608 = 1 := by omega
      have d6 : decide (ex < -149) = false := decide_eq_false (by omega)
      have d7 : decide (255 < ex) = false := decide_eq_false (by omega)
      obtain ⟨U, hU⟩ : ∃ U : Int, ex - 23 = U := ⟨_, rfl⟩
      obtain ⟨E, hE⟩ : ∃ E : Int, -149 + (se : Int) = E := ⟨_, rfl⟩
      rw [hE] at SX
      have eU : IntKind.i64.wrap U = U := IntWalk.i64_in _ (by omega)
      have eZ : E - E = 0 := Int.sub_self E
      have eZ2 : U - U = 0 := Int.sub_self U
      have eZ3 : IntKind.i64.wrap 0 = 0 := by decide
      have ls : sm < 18446744073709551616 := by omega
      have lm : m < 18446744073709551616 := by omega
      have LS := Lib.hid ls
      have LM := Lib.hid lm
      by_cases hle : E ≤ U
      · obtain ⟨B, hB⟩ : ∃ B : Nat, (B : Int) = U - E := ⟨(U - E).toNat, by omega⟩
        have e2 : IntKind.i64.wrap (U - E) = (B : Int) := by rw [IntWalk.i64_in _ (by omega)]; omega
        have hBb : B ≤ 3000 := by omega
        have q6 : m * 2 ^ B = sm := by
          have := q5 0 B (by omega) (.inl rfl)
          rw [Nat.pow_zero, Nat.mul_one] at this
          exact this.symm
        clear hB
        have SHA : Hid (∀ (w : World) (va : Value), NatAt w va sm → Calls Try.prog 36 #[va, .int .i64 0] w (NatPost w sm)) := Lib.hid fun w va h => by
          have h2 := natShl (s := 0) 100 (by omega) h (pow_lt_K (n := sm) (k := 64) (K := 100) ls (by omega)) (by omega)
          rw [Nat.pow_zero, Nat.mul_one] at h2
          exact h2
        have SHB : Hid (∀ (w : World) (va : Value), NatAt w va m → Calls Try.prog 36 #[va, .int .i64 (B : Int)] w (NatPost w sm)) := Lib.hid fun w va h => by
          have h2 := natShl (s := B) 100 (by omega) h (pow_lt_K (n := m) (k := 64) (K := 100) lm (by omega)) (by omega)
          rw [q6] at h2
          exact h2
        have CM : Hid (∀ (w : World) (va vb : Value), NatAt w va sm → NatAt w vb sm → Calls Try.prog 35 #[va, vb] w fun e w' => e = .returned (.int .i64 0) ∧ w = w') := Lib.hid fun w va vb h1 h2 => by
          have h3 := natCmp 100 (by omega) h1 h2 (pow_lt_K (n := sm) (k := 64) (K := 100) ls (by omega)) (pow_lt_K (n := sm) (k := 64) (K := 100) ls (by omega))
          rw [cmpI_self] at h3
          exact h3
        clear hS1 hS2 hsm hse q1 q2 q3 q4 q5 q6 h0 ls lm
        have UPK := Lib.hid UPK
        have IX := Lib.hid IX
        have NX := Lib.hid NX
        have FX := Lib.hid FX
        have SX := Lib.hid SX
        have B0 := Lib.hid (Below.refl w.heap.size w)
        go_enter Try.func10, Try.ntmps10
        go_wp2_with fail
        refine (fmt32_any _).mono ?_
        rintro e u1 ⟨rfl, hb⟩
        have B1 := Lib.hid (below_trans' B0.out hb)
        clear hb
        have HS0 := Lib.hid (FB32.start0 u1)
        go_wp2_with fail
        refine (UPK.out _).mono ?_
        rintro e' u2 ⟨rfl, hb⟩
        have HP0 := Lib.hid (UPW32.drew (UPW32.start (s : Int) (m : Int) ex false false (FB32.step HS0.out hb)))
        clear hb
        go_wp2_with fail
        first
          | go_region_held3 (fun w' => UPW32 (s : Int) (m : Int) ex false false u1 u2 w') (first | assumption | exact HP0.out) (first | (go_at_call 32; (with_reducible refine (IX.out _).mono ?_); rintro e' q ⟨rfl, hb⟩; have hs := UPW32.step (s := (s : Int)) (m := (m : Int)) (e := ex) (i := false) (n := false) (u1 := u1) (u2 := u2) (by assumption) hb; clear hb) | (go_at_call 33; (with_reducible refine (NX.out _).mono ?_); rintro e' q ⟨rfl, hb⟩; have hs := UPW32.step (s := (s : Int)) (m := (m : Int)) (e := ex) (i := false) (n := false) (u1 := u1) (u2 := u2) (by assumption) hb; clear hb))
          | fail
        have HS1 := Lib.hid hs
        obtain ⟨⟨c0, c1, c2, c3, c4, c5, c6⟩, d0, d1, d2, d3, d4, d5⟩ := hs
        clear c5 c6 d5
        go_wp2_with fail
        refine (FX.out _).mono ?_
        rintro e' v1 ⟨rfl, hb⟩
        have hs := UPW32.step (s := (s : Int)) (m := (m : Int)) (e := ex) (i := false) (n := false) (u1 := u1) (u2 := u2) HS1.out hb
        have HS2 := Lib.hid hs
        clear hb
        clear c0 c1 c2 c3 c4 d0 d1 d2 d3 d4
        obtain ⟨⟨c0, c1, c2, c3, c4, c5, c6⟩, d0, d1, d2, d3, d4, d5⟩ := hs
        clear c5 c6 d5
        go_wp2_with fail
        refine (SX.out _).mono ?_
        rintro e' v2 ⟨rfl, hb⟩
        have hs := UPW32.step (s := (s : Int)) (m := (m : Int)) (e := ex) (i := false) (n := false) (u1 := u1) (u2 := u2) HS2.out hb
        have HS3 := Lib.hid hs
        clear hb
        clear c0 c1 c2 c3 c4 d0 d1 d2 d3 d4
        obtain ⟨⟨c0, c1, c2, c3, c4, c5, c6⟩, d0, d1, d2, d3, d4, d5⟩ := hs
        clear c5 c6 d5
        have HS4 := Lib.hid (UPW32.drew HS3.out)
        go_wp2_with fail
        first
          | go_region_held3 (fun w' => UPW32 (s : Int) (m : Int) ex false false u1 u2 w') (first | assumption | exact HS4.out) (first | (go_at_call 37; (with_reducible refine (natOf_any _ sm LS.out).mono ?_); rintro e' q ⟨va, rfl, na, hb⟩; have hs := UPW32.step (s := (s : Int)) (m := (m : Int)) (e := ex) (i := false) (n := false) (u1 := u1) (u2 := u2) (by assumption) hb; clear hb) | (go_at_call 37; (with_reducible refine (natOf_any _ m LM.out).mono ?_); rintro e' q ⟨vb, rfl, nb, hb⟩; have nA := nA.below hb; have hs := UPW32.step (s := (s : Int)) (m := (m : Int)) (e := ex) (i := false) (n := false) (u1 := u1) (u2 := u2) (by assumption) hb; clear hb) | (go_at_call 36; (with_reducible refine (SHA.out _ _ na).mono ?_); rintro e' q ⟨vA, rfl, nA, hb⟩; have hs := UPW32.step (s := (s : Int)) (m := (m : Int)) (e := ex) (i := false) (n := false) (u1 := u1) (u2 := u2) (by assumption) hb; clear hb) | (go_at_call 36; (with_reducible refine (SHB.out _ _ nb).mono ?_); rintro e' q ⟨vB, rfl, nB, hb⟩; have nA := nA.below hb; have hs := UPW32.step (s := (s : Int)) (m := (m : Int)) (e := ex) (i := false) (n := false) (u1 := u1) (u2 := u2) (by assumption) hb; clear hb) | (go_at_call 35; (with_reducible refine (CM.out _ _ _ nA nB).mono ?_); rintro e' q ⟨rfl, rfl⟩))
          | fail
        go_wp2_with fail
        go_ret
        exact ⟨rfl, below_trans' B1.out (FB32.below (And.left (by assumption)))⟩
      · obtain ⟨A, hA⟩ : ∃ A : Nat, (A : Int) = E - U := ⟨(E - U).toNat, by omega⟩
        have e2 : IntKind.i64.wrap (E - U) = (A : Int) := by rw [IntWalk.i64_in _ (by omega)]; omega
        have hBb : A ≤ 3000 := by omega
        have q6 : sm * 2 ^ A = m := by
          have := q5 A 0 (by omega) (.inr rfl)
          rw [Nat.pow_zero, Nat.mul_one] at this
          exact this
        clear hA
        have SHA : Hid (∀ (w : World) (va : Value), NatAt w va sm → Calls Try.prog 36 #[va, .int .i64 (A : Int)] w (NatPost w m)) := Lib.hid fun w va h => by
          have h2 := natShl (s := A) 100 (by omega) h (pow_lt_K (n := sm) (k := 64) (K := 100) ls (by omega)) (by omega)
          rw [q6] at h2
          exact h2
        have SHB : Hid (∀ (w : World) (va : Value), NatAt w va m → Calls Try.prog 36 #[va, .int .i64 0] w (NatPost w m)) := Lib.hid fun w va h => by
          have h2 := natShl (s := 0) 100 (by omega) h (pow_lt_K (n := m) (k := 64) (K := 100) lm (by omega)) (by omega)
          rw [Nat.pow_zero, Nat.mul_one] at h2
          exact h2
        have CM : Hid (∀ (w : World) (va vb : Value), NatAt w va m → NatAt w vb m → Calls Try.prog 35 #[va, vb] w fun e w' => e = .returned (.int .i64 0) ∧ w = w') := Lib.hid fun w va vb h1 h2 => by
          have h3 := natCmp 100 (by omega) h1 h2 (pow_lt_K (n := m) (k := 64) (K := 100) lm (by omega)) (pow_lt_K (n := m) (k := 64) (K := 100) lm (by omega))
          rw [cmpI_self] at h3
          exact h3
        clear hS1 hS2 hsm hse q1 q2 q3 q4 q5 q6 h0 ls lm
        have UPK := Lib.hid UPK
        have IX := Lib.hid IX
        have NX := Lib.hid NX
        have FX := Lib.hid FX
        have SX := Lib.hid SX
        have B0 := Lib.hid (Below.refl w.heap.size w)
        go_enter Try.func10, Try.ntmps10
        go_wp2_with fail
        refine (fmt32_any _).mono ?_
        rintro e u1 ⟨rfl, hb⟩
        have B1 := Lib.hid (below_trans' B0.out hb)
        clear hb
        have HS0 := Lib.hid (FB32.start0 u1)
        go_wp2_with fail
        refine (UPK.out _).mono ?_
        rintro e' u2 ⟨rfl, hb⟩
        have HP0 := Lib.hid (UPW32.drew (UPW32.start (s : Int) (m : Int) ex false false (FB32.step HS0.out hb)))
        clear hb
        go_wp2_with fail
        first
          | go_region_held3 (fun w' => UPW32 (s : Int) (m : Int) ex false false u1 u2 w') (first | assumption | exact HP0.out) (first | (go_at_call 32; (with_reducible refine (IX.out _).mono ?_); rintro e' q ⟨rfl, hb⟩; have hs := UPW32.step (s := (s : Int)) (m := (m : Int)) (e := ex) (i := false) (n := false) (u1 := u1) (u2 := u2) (by assumption) hb; clear hb) | (go_at_call 33; (with_reducible refine (NX.out _).mono ?_); rintro e' q ⟨rfl, hb⟩; have hs := UPW32.step (s := (s : Int)) (m := (m : Int)) (e := ex) (i := false) (n := false) (u1 := u1) (u2 := u2) (by assumption) hb; clear hb))
          | fail
        have HS1 := Lib.hid hs
        obtain ⟨⟨c0, c1, c2, c3, c4, c5, c6⟩, d0, d1, d2, d3, d4, d5⟩ := hs
        clear c5 c6 d5
        go_wp2_with fail
        refine (FX.out _).mono ?_
        rintro e' v1 ⟨rfl, hb⟩
        have hs := UPW32.step (s := (s : Int)) (m := (m : Int)) (e := ex) (i := false) (n := false) (u1 := u1) (u2 := u2) HS1.out hb
        have HS2 := Lib.hid hs
        clear hb
        clear c0 c1 c2 c3 c4 d0 d1 d2 d3 d4
        obtain ⟨⟨c0, c1, c2, c3, c4, c5, c6⟩, d0, d1, d2, d3, d4, d5⟩ := hs
        clear c5 c6 d5
        go_wp2_with fail
        refine (SX.out _).mono ?_
        rintro e' v2 ⟨rfl, hb⟩
        have hs := UPW32.step (s := (s : Int)) (m := (m : Int)) (e := ex) (i := false) (n := false) (u1 := u1) (u2 := u2) HS2.out hb
        have HS3 := Lib.hid hs
        clear hb
        clear c0 c1 c2 c3 c4 d0 d1 d2 d3 d4
        obtain ⟨⟨c0, c1, c2, c3, c4, c5, c6⟩, d0, d1, d2, d3, d4, d5⟩ := hs
        clear c5 c6 d5
        have HS4 := Lib.hid (UPW32.drew HS3.out)
        go_wp2_with fail
        first
          | go_region_held3 (fun w' => UPW32 (s : Int) (m : Int) ex false false u1 u2 w') (first | assumption | exact HS4.out) (first | (go_at_call 37; (with_reducible refine (natOf_any _ sm LS.out).mono ?_); rintro e' q ⟨va, rfl, na, hb⟩; have hs := UPW32.step (s := (s : Int)) (m := (m : Int)) (e := ex) (i := false) (n := false) (u1 := u1) (u2 := u2) (by assumption) hb; clear hb) | (go_at_call 37; (with_reducible refine (natOf_any _ m LM.out).mono ?_); rintro e' q ⟨vb, rfl, nb, hb⟩; have nA := nA.below hb; have hs := UPW32.step (s := (s : Int)) (m := (m : Int)) (e := ex) (i := false) (n := false) (u1 := u1) (u2 := u2) (by assumption) hb; clear hb) | (go_at_call 36; (with_reducible refine (SHA.out _ _ na).mono ?_); rintro e' q ⟨vA, rfl, nA, hb⟩; have hs := UPW32.step (s := (s : Int)) (m := (m : Int)) (e := ex) (i := false) (n := false) (u1 := u1) (u2 := u2) (by assumption) hb; clear hb) | (go_at_call 36; (with_reducible refine (SHB.out _ _ nb).mono ?_); rintro e' q ⟨vB, rfl, nB, hb⟩; have nA := nA.below hb; have hs := UPW32.step (s := (s : Int)) (m := (m : Int)) (e := ex) (i := false) (n := false) (u1 := u1) (u2 := u2) (by assumption) hb; clear hb) | (go_at_call 35; (with_reducible refine (CM.out _ _ _ nA nB).mono ?_); rintro e' q ⟨rfl, rfl⟩))
          | fail
        go_wp2_with fail
        go_ret
        exact ⟨rfl, below_trans' B1.out (FB32.below (And.left (by assumption)))⟩
end Go.Proofs.Ytpjanmahbimhkaa.SF
