/-
  The walk through the reference's Round.
-/
import Derived.Test.YtdadcbjhjmdheaaRoundW
import Derived.Deep.DeepCutAuto
namespace Go.Proofs.Ytdadcbjhjmdheaa.SF
open Go.ChangeShapes Go.WideShapes Go.ChangeAt Go.RowKit
set_option linter.unusedVariables false

theorem msb_lt {X Y m nn j : Nat} (h : m < Y * 2 ^ (j + 1)) (hd : ¬ m < Y * 2 ^ j) : m - Y * 2 ^ j < Y * 2 ^ j := by
  rw [pow_succ2, Nat.mul_left_comm] at h; omega
theorem div_step {X Y m nn j : Nat} (hX : X = nn * Y + m) (hd : ¬ m < Y * 2 ^ j) : X = (nn + 2 ^ j) * Y + (m - Y * 2 ^ j) := by
  rw [Nat.add_mul, Nat.mul_comm (2 ^ j) Y]; omega
theorem mod_step1 {nn j : Nat} (h : nn % 2 ^ (j + 1) = 0) : nn % 2 ^ j = 0 := by
  rw [pow_succ2] at h
  have := Nat.mod_mul_left_mod nn 2 (2 ^ j)
  rw [h] at this; simpa using this.symm
theorem mod_step2 {nn j : Nat} (h : nn % 2 ^ (j + 1) = 0) : (nn + 2 ^ j) % 2 ^ j = 0 := by
  rw [Nat.add_mod_right]; exact mod_step1 h
theorem or_step {nn j : Nat} (h : nn % 2 ^ (j + 1) = 0) (hj : j ≤ 60) (hn : nn < 1152921504606846976) : bits .or .u64 (nn : Int) (IntKind.u64.wrap (1 * 2 ^ j)) = ((nn + 2 ^ j : Nat) : Int) ∧ bits .or .u64 (nn : Int) (IntKind.u64.wrap (2 ^ j)) = ((nn + 2 ^ j : Nat) : Int) ∧ bits .or .u64 (nn : Int) (2 ^ j) = ((nn + 2 ^ j : Nat) : Int) := by
  have hp : 2 ^ j ≤ 2 ^ 60 := Nat.pow_le_pow_right (by omega) hj
  have c : ((2 : Int) ^ j) = ((2 ^ j : Nat) : Int) := by simp
  have e : bits .or .u64 (nn : Int) ((2 ^ j : Nat) : Int) = ((nn + 2 ^ j : Nat) : Int) := by
    rw [u64_or_nat _ _ (by omega) (by omega), or_disjoint _ _ (j + 1) h (by rw [pow_succ2]; have := two_pow_pos j; omega)]
  rw [Int.one_mul, c, wrap_u64_nat (by omega)]
  exact ⟨e, e, e⟩

theorem shl_bound {a K s : Nat} (h : a < 2 ^ (32 * K)) (hs : s ≤ 400000) : a * 2 ^ s * 2 ^ 64 < 2 ^ (32 * (K + 13000)) := by
  rw [Nat.mul_assoc, ← Nat.pow_add]
  exact Nat.lt_of_lt_of_le (mul_pow_lt h) (Nat.pow_le_pow_right (by omega) (by omega))
theorem lt_of_shl {a N : Nat} (h : a * 2 ^ 64 < N) : a < N := by
  have : a ≤ a * 2 ^ 64 := Nat.le_mul_of_pos_right _ (two_pow_pos _)
  omega
theorem nn_bound {X Y nn m i D : Nat} (hX : X = nn * Y + m) (hm : m < Y * 2 ^ (i + 1)) (hc : ¬ m < Y * 2 ^ i) (hXl : X < 2 ^ D * Y) (hY : 0 < Y) (hD : D ≤ 60 := by omega) : nn + 2 ^ i < 1152921504606846976 := by
  have h1 : (nn + 2 ^ i) * Y < 2 ^ D * Y := by
    rw [Nat.add_mul, Nat.mul_comm (2 ^ i)]; omega
  have h2 := Nat.lt_of_mul_lt_mul_right h1
  have h3 : 2 ^ D ≤ 2 ^ 60 := Nat.pow_le_pow_right (by omega) hD
  omega

theorem round_far {F T X Y kk : Nat} {R : Nat → Prop} (h : ∀ n r n', X = n * Y + r → r < Y → (((Y < 2 * r ∨ (2 * r = Y ∧ n % 2 = 1)) ∧ n' = n + 1) ∨ (¬ (Y < 2 * r ∨ (2 * r = Y ∧ n % 2 = 1)) ∧ n' = n)) → R (kk * 2 ^ F + n') ∧ n' ≤ 2 ^ (F + 1) ∧ (kk = 0 ∨ 2 ^ F ≤ n')) (hY : 0 < Y) (hk : T < kk) :
    ∃ b, R b ∧ T * 2 ^ F ≤ b := by
  have hdm := Nat.div_add_mod X Y
  have hml := Nat.mod_lt X hY
  have hX : X = X / Y * Y + X % Y := by rw [Nat.mul_comm]; exact hdm.symm
  generalize X / Y = n at *
  generalize X % Y = r at *
  have h1 : T * 2 ^ F ≤ kk * 2 ^ F := Nat.mul_le_mul_right _ (by omega)
  by_cases hc : Y < 2 * r ∨ (2 * r = Y ∧ n % 2 = 1)
  · exact ⟨_, (h n r (n + 1) hX hml (.inl ⟨hc, rfl⟩)).1, by omega⟩
  · exact ⟨_, (h n r n hX hml (.inr ⟨hc, rfl⟩)).1, by omega⟩

/-- the long division of Round: i bits are still to come -/
structure RdRel (g X Y : Nat) (vd : Value) (a n i : Value) (wr : World) : Prop where
  ex : ∃ (j nn m : Nat), i = .int .i64 ((j : Int) - 1) ∧ n = .int .u64 (nn : Int) ∧ NatAt wr a m ∧ NatAt wr vd Y ∧ X = nn * Y + m ∧ m < Y * 2 ^ j ∧ nn % 2 ^ j = 0 ∧ nn < 1152921504606846976 ∧ j ≤ g + 1

def RoundPost64 (neg : Bool) (num den : Nat) (E : Int) (w : World) : Ending → World → Prop := fun e w' =>
  ∃ b, IsRnd 52 (numA num E) (numB den E) b ∧ e = .returned (.int .u64 ((sgn64 neg (min b 9218868437227405312) : Nat) : Int)) ∧ Below w.heap.size w w'

set_option maxRecDepth 100000 in
set_option maxHeartbeats 4000000 in
theorem round64_any (w : World) (neg : Bool) (va vb : Value) (num den K : Nat) (ex E : Int) (hK : K ≤ 2000) (hE : Hid (E = ex + 1074)) (he1 : -150000 ≤ ex) (he2 : ex ≤ 150000) (ha : NatAt w va num) (hb : NatAt w vb den) (la : num < 2 ^ (32 * K)) (lb : den < 2 ^ (32 * K)) (hd : 0 < den) :
    Calls Try.prog 57 #[.agg #[.int .i64 53, .int .i64 52, .int .i64 (-1074), .int .u64 2047, .int .u64 9223372036854775808], .bool neg, va, vb, .int .i64 ex] w (RoundPost64 neg num den E w) := by
  have HF0 := Lib.hid (FB64.start0 w)
  have HFd := Lib.hid (FB64.start w)
  have hba : Below w.heap.size w (w.alloc (.cells #[.int .i64 53, .int .i64 52, .int .i64 (-1074), .int .u64 2047, .int .u64 9223372036854775808] 26)).drew := (FB64.start w).below
  have HA := Lib.hid (ha.below hba)
  have HB := Lib.hid (hb.below hba)
  have LA := Lib.hid la
  have LB := Lib.hid lb
  obtain ⟨A, k, cap, ds, rfl, hr, hdv, ht⟩ := ha.form
  by_cases h0 : num = 0
  · have hk : k = 0 := by
      rcases ht with h | h
      · exact h
      · have := top_le (K := 0) hr.len (.inr h) (by rw [hdv, h0]; simp)
        omega
    subst hk
    have hz : IsRnd 52 (numA num E) (numB den E) 0 := rnd_zero (by rw [h0]; simp [numA])
    have HZ := Lib.hid hz
    have CS := Lib.hid fun w => fsigned64_any neg 0 w (by omega)
    clear ha hb la lb hr hdv ht hba h0 hz
    go_enter Try.func57, Try.ntmps57
    go_wp2_with fail
    refine (CS.out _).mono ?_
    rintro e w1 ⟨rfl, hb⟩
    have HW := Lib.hid (FB64.step HF0.out hb).below
    clear hb
    go_wp2_with fail
    go_ret
    exact ⟨0, HZ.out, by rw [Nat.zero_min]; rfl, HW.out⟩
  · have hk0 : ((k : Int) == 0) = false := by
      refine beq_eq_false_iff_ne.mpr ?_
      intro hk
      have : k = 0 := by omega
      subst this
      have e : ds = [] := List.length_eq_zero_iff.mp hr.len
      subst e
      exact h0 hdv.symm
    have CL := Lib.hid (log_any _ _ _ num den K (by omega) HA.out HB.out la lb (by omega) hd)
    clear ha hb la lb hr hdv ht hba
    go_enter Try.func57, Try.ntmps57
    go_wp2_with fail
    go_cut [11] (fun q wx => ∃ (lg : Int) (kk : Nat), q = .int .i64 ((kk : Int) - 1074) ∧ Lg num den lg ∧ lg ≤ 32 * K ∧ (kk : Int) = max (lg + E - 52) 0 ∧ FB64 w wx ∧ NatAt wx (.slice A k cap) num ∧ NatAt wx vb den)
    case first =>
      go_region_held3 (fun w' => FB64 w w') (first | assumption | exact HFd.out) (first | (go_at_call 79; refine (CL.out).mono ?_; rintro e w1 ⟨lg, rfl, hlg, hl1, hl2, hb⟩; have s1 : IntKind.i64.wrap (lg + ex) = lg + ex := IntWalk.i64_in _ (by omega); have s2 : IntKind.i64.wrap (lg + ex - 53) = lg + ex - 53 := IntWalk.i64_in _ (by omega); have s3 : IntKind.i64.wrap (lg + ex - 53 + 1) = lg + ex - 53 + 1 := IntWalk.i64_in _ (by omega); have hs := FB64.step (w := w) (by assumption) hb; have HLG := Lib.hid hlg; have HBB := Lib.hid hb; clear hb hlg))
      all_goals go_wp2_with fail
      all_goals
        go_meet
        have hEE := hE.out
        refine ⟨lg, (max (lg + E - 52) 0).toNat, ?_, HLG.out, by omega, by omega, by assumption, HA.out.below HBB.out, HB.out.below HBB.out⟩
        congr 1
        clear s1 s2 s3
        omega
    case rest =>
      obtain ⟨lg, kk, rfl, hlg, hlgb, hkk, hfb, hna, hnb⟩ := hcut
      have HFB := Lib.hid hfb
      have HNA := Lib.hid hna
      have HNB := Lib.hid hnb
      have hEE := hE.out
      have hkk2 : kk ≤ 300000 := by omega
      have HLG := Lib.hid hlg
      have HKK := Lib.hid hkk
      have HEE := Lib.hid hEE
      obtain ⟨X, hXd⟩ : ∃ X, X = num * 2 ^ (E - kk).toNat := ⟨_, rfl⟩
      obtain ⟨Y, hYd⟩ : ∃ Y, Y = den * 2 ^ (-(E - kk)).toNat := ⟨_, rfl⟩
      have hY : 0 < Y := by rw [hYd]; exact Nat.mul_pos hd (two_pow_pos _)
      have hRR : ∀ n r n', X = n * Y + r → r < Y → (((Y < 2 * r ∨ (2 * r = Y ∧ n % 2 = 1)) ∧ n' = n + 1) ∨ (¬ (Y < 2 * r ∨ (2 * r = Y ∧ n % 2 = 1)) ∧ n' = n)) →
          IsRnd 52 (numA num E) (numB den E) (kk * 2 ^ 52 + n') ∧ n' ≤ 2 ^ (52 + 1) ∧ (kk = 0 ∨ 2 ^ 52 ≤ n') := by
        intro n r n' e1 e2 e3
        subst hXd hYd
        exact round_rung (by omega) (by omega) hd hlg hkk e1 e2 e3
      have hXlt : X < 2 ^ 53 * Y := by
        subst hXd hYd
        exact hlg.upper (F := 52) (s := E - kk) (by omega)
      have HRR := Lib.hid hRR
      have HXL := Lib.hid hXlt
      obtain ⟨c0, c1, c2, c3, c4, c5, c6⟩ := hfb
      clear hna hnb hlg hkk hEE hRR hXlt c5 c6
      by_cases hbig : (2047 : Int) < (kk : Int)
      · go_wp2_with fail
        refine (finfv64_any neg _).mono ?_
        rintro e w1 ⟨rfl, hb⟩
        have HW := Lib.hid (FB64.step HFB.out hb).below
        clear hb
        go_wp2_with fail
        go_ret
        obtain ⟨b, r1, r2⟩ := round_far HRR.out hY (show 2047 < kk by omega)
        have hm : min b 9218868437227405312 = 9218868437227405312 := Nat.min_eq_right r2
        refine ⟨b, r1, ?_, HW.out⟩
        rw [hm]
        rfl
      · go_upto_if 47 with (fail)
        go_cut [2, 3] (fun a d wx => NatAt wx a X ∧ NatAt wx d Y ∧ FB64 w wx)
        case first =>
          by_cases hs : (kk : Int) - 1074 ≤ ex
          · obtain ⟨s, hsd⟩ : ∃ s : Nat, (s : Int) = E - kk := ⟨(E - kk).toNat, by have := HEE.out; omega⟩
            have hse : ex - ((kk : Int) - 1074) = (s : Int) := by have := HEE.out; omega
            have hs1 : s ≤ 400000 := by have := HEE.out; omega
            have eX : X = num * 2 ^ s := by rw [hXd, ← hsd]; simp
            have eY : Y = den := by rw [hYd, ← hsd]; simp
            have C1 := Lib.hid (natShl (s := s) K (by omega) HNA.out LA.out (by omega))
            rw [← eX] at C1
            have HY := Lib.hid eY
            clear eX eY hsd hXd hYd
            go_wp2_with fail
            refine (C1.out).mono ?_
            rintro e w1 ⟨v1, rfl, n1, b1⟩
            have hs2 := FB64.step HFB.out b1
            have hn2 := HNB.out.below b1
            have HH := Lib.hid (And.intro n1 (And.intro (show NatAt w1 vb Y by rw [HY.out]; exact hn2) hs2))
            clear n1 b1 hs2 hn2
            go_wp2_with fail
            go_meet
            exact HH.out
          · obtain ⟨s, hsd⟩ : ∃ s : Nat, (s : Int) = -(E - kk) := ⟨(-(E - kk)).toNat, by have := HEE.out; omega⟩
            have hse : ((kk : Int) - 1074) - ex = (s : Int) := by have := HEE.out; omega
            have hs1 : s ≤ 400000 := by have := HEE.out; omega
            have eX : X = num := by
              rw [hXd, show (E - kk).toNat = 0 by omega]; simp
            have eY : Y = den * 2 ^ s := by rw [hYd, ← hsd]; simp
            have C1 := Lib.hid (natShl (s := s) K (by omega) HNB.out LB.out (by omega))
            rw [← eY] at C1
            have HX := Lib.hid eX
            clear eX eY hsd hXd hYd
            go_wp2_with fail
            refine (C1.out).mono ?_
            rintro e w1 ⟨v1, rfl, n1, b1⟩
            have hs2 := FB64.step HFB.out b1
            have hn2 := HNA.out.below b1
            have HH := Lib.hid (And.intro (show NatAt w1 (.slice A k cap) X by rw [HX.out]; exact hn2) (And.intro n1 hs2))
            clear n1 b1 hs2 hn2
            go_wp2_with fail
            go_meet
            exact HH.out
        case rest =>
          obtain ⟨hx, hy, hf⟩ := hcut
          have HX := Lib.hid hx
          have HYN := Lib.hid hy
          have HF2 := Lib.hid hf
          obtain ⟨b0, b1, b2, b3, b4, b5, b6⟩ := hf
          obtain ⟨K2, hK2, hXK, hYK⟩ : ∃ K2, K2 ≤ 900000 ∧ X * 2 ^ 64 < 2 ^ (32 * K2) ∧ Y * 2 ^ 64 < 2 ^ (32 * K2) := by
            refine ⟨K + 13000, by omega, ?_, ?_⟩
            · rw [hXd]; exact shl_bound LA.out (by have := HEE.out; omega)
            · rw [hYd]; exact shl_bound LB.out (by have := HEE.out; omega)
          have HXK := Lib.hid hXK
          have HYK := Lib.hid hYK
          have H0 : RdRel 53 X Y u3 u2 (.int .u64 0) (.int .i64 53) wc := ⟨53 + 1, 0, X, rfl, rfl, HX.out, HYN.out, by omega, by rw [pow_succ2, Nat.mul_left_comm, Nat.mul_comm Y]; have := HXL.out; omega, by simp, by omega, by omega⟩
          clear hx hy hXK hYK hXd hYd b5 b6
          go_wp2_with fail
          go_loopw [2, 12, 13, 14] (fun a n i d wr => RdRel 53 X Y u3 a n i wr ∧ FB64 w wr) (fun a n i d wr => msCmp i)
          case atStart => exact ⟨H0, HF2.out⟩
          case round =>
            obtain ⟨hr1, hr2⟩ := hrel
            obtain ⟨j, nn, m, rfl, rfl, hm, hyd, hXe, hmY, hmod, hnn, hj⟩ := hr1.ex
            have HM := Lib.hid hm
            have HD := Lib.hid hyd
            have HXE := Lib.hid hXe
            have HMY := Lib.hid hmY
            have HMOD := Lib.hid hmod
            have HNN := Lib.hid hnn
            have HF3 := Lib.hid hr2
            clear hm hyd hXe hmY hmod hnn hr1 hr2 H0 b0 b1 b2 b3 b4 c0 c1 c2 c3 c4
            by_cases hj0 : j = 0
            · subst hj0
              have hmY : m < Y := by simpa using HMY.out
              have hmX : m * 2 ^ 64 < 2 ^ (32 * K2) := by
                refine Nat.lt_of_le_of_lt (Nat.mul_le_mul_right _ ?_) HXK.out
                have := HXE.out; omega
              have hm2 : m * 2 ^ 1 < 2 ^ (32 * K2) := by
                refine Nat.lt_of_le_of_lt (Nat.mul_le_mul_left _ (Nat.pow_le_pow_right (by omega) (by omega))) hmX
              have C1 := Lib.hid (natShl (s := 1) K2 (by omega) HM.out (lt_of_shl hmX) (by omega))
              have HM2 := Lib.hid hm2
              have a1 := and_one .u64 nn (by decide) (Nat.lt_trans HNN.out (by decide))
              obtain ⟨up, hup⟩ : ∃ up : Bool, up = decide (Y < 2 * m ∨ (2 * m = Y ∧ nn % 2 = 1)) := ⟨_, rfl⟩
              have HUP := Lib.hid hup
              have HMM := Lib.hid hmY
              clear hmX hm2 hup hmY
              go_wp2_with fail
              refine (C1.out).mono ?_
              rintro e w1 ⟨v1, rfl, n1, b1⟩
              have C2 := Lib.hid (natCmp K2 (by omega) n1 (HD.out.below b1) HM2.out (lt_of_shl HYK.out))
              have HF4 := Lib.hid (FB64.step HF3.out b1)
              clear n1 b1
              go_wp2_with fail
              refine (C2.out).mono ?_
              rintro e w2 ⟨rfl, rfl⟩
              generalize hcd : cmpI (m * 2 ^ 1) Y = c
              have HCD := Lib.hid hcd
              clear hcd
              go_upto_region 18 with (fail)
              go_cut [92] (fun b wx => b = .bool up ∧ wx = w1)
              case first =>
                rcases Nat.lt_trichotomy (2 * m) Y with h1 | h1 | h1
                · have ec : c = -1 := by rw [← HCD.out]; exact cmpI_lt (by omega)
                  have eu : up = false := by rw [HUP.out]; exact decide_eq_false (by omega)
                  have HEU := Lib.hid eu
                  subst ec
                  clear eu h1
                  go_wp2_with fail
                  go_meet
                  exact ⟨by rw [HEU.out], rfl⟩
                · have ec : c = 0 := by
                    rw [← HCD.out]; unfold cmpI; rw [if_neg (by omega), if_pos (by omega)]
                  subst ec
                  rcases Nat.mod_two_eq_zero_or_one nn with hp | hp
                  · have eu : up = false := by rw [HUP.out]; exact decide_eq_false (by omega)
                    have HEU := Lib.hid eu
                    rw [hp] at a1
                    clear eu h1 hp
                    go_wp2_with fail
                    go_meet
                    exact ⟨by rw [HEU.out], rfl⟩
                  · have eu : up = true := by rw [HUP.out]; exact decide_eq_true (by omega)
                    have HEU := Lib.hid eu
                    rw [hp] at a1
                    clear eu h1 hp
                    go_wp2_with fail
                    go_meet
                    exact ⟨by rw [HEU.out], rfl⟩
                · have ec : c = 1 := by
                    rw [← HCD.out]; unfold cmpI; rw [if_neg (by omega), if_neg (by omega)]
                  have eu : up = true := by rw [HUP.out]; exact decide_eq_true (by omega)
                  have HEU := Lib.hid eu
                  subst ec
                  clear eu h1
                  go_wp2_with fail
                  go_meet
                  exact ⟨by rw [HEU.out], rfl⟩
              case rest =>
                obtain ⟨rfl, rfl⟩ := hcut
                have HF5 := Lib.hid (HF4.out).drew
                obtain ⟨n', hn', hR, hn2⟩ : ∃ n', ((up = true ∧ n' = nn + 1) ∨ (up = false ∧ n' = nn)) ∧ IsRnd 52 (numA num E) (numB den E) (kk * 2 ^ 52 + n') ∧ n' ≤ 2 ^ (52 + 1) := by
                  cases hu : up
                  · have hnu : ¬ (Y < 2 * m ∨ (2 * m = Y ∧ nn % 2 = 1)) := of_decide_eq_false (HUP.out.symm.trans hu)
                    have := HRR.out nn m nn HXE.out HMM.out (.inr ⟨hnu, rfl⟩)
                    exact ⟨nn, .inr ⟨rfl, rfl⟩, this.1, this.2.1⟩
                  · have hnu : Y < 2 * m ∨ (2 * m = Y ∧ nn % 2 = 1) := of_decide_eq_true (HUP.out.symm.trans hu)
                    have := HRR.out nn m (nn + 1) HXE.out HMM.out (.inl ⟨hnu, rfl⟩)
                    exact ⟨nn + 1, .inl ⟨rfl, rfl⟩, this.1, this.2.1⟩
                have hkT : kk ≤ 2047 := by omega
                have hn2' : n' ≤ 9007199254740992 := hn2
                have q1 : IntKind.i64.wrap (kk : Int) = (kk : Int) := IntWalk.i64_in _ (by omega)
                have q7 : IntKind.u64.wrap (n' : Int) = (n' : Int) := wrap_u64_nat (by omega)
                have q2 : IntKind.u64.wrap (kk : Int) = (kk : Int) := wrap_u64_nat (by omega)
                obtain ⟨kp, hkp⟩ : ∃ kp, kp = kk * 4503599627370496 := ⟨_, rfl⟩
                obtain ⟨b, hbd⟩ : ∃ b, b = kp + n' := ⟨_, rfl⟩
                have q3 : IntKind.u64.wrap ((kk : Int) * 4503599627370496) = (kp : Int) := by rw [IntKind.wrap_u64]; omega
                have q4 : IntKind.u64.wrap ((kp : Int) + (n' : Int)) = (b : Int) := by rw [IntKind.wrap_u64]; omega
                have q5 : IntKind.u64.wrap (9218868437227405312 : Int) = 9218868437227405312 := by rw [IntKind.wrap_u64]; rfl
                have HR := Lib.hid (show IsRnd 52 (numA num E) (numB den E) b by rw [hbd, hkp]; exact hR)
                have HF6 := Lib.hid HF5.out.drew
                clear hR hn2 hn2' hkT hkk2 hbig hkp hbd
                obtain ⟨t0, t1, t2, t3, t4, t5, t6⟩ := HF4.out
                clear t5 t6
                have hcas : (up = true ∧ (nn : Int) + 1 = (n' : Int)) ∨ (up = false ∧ (nn : Int) = (n' : Int)) := by
                  rcases hn' with ⟨h1, h2⟩ | ⟨h1, h2⟩
                  · exact .inl ⟨h1, by omega⟩
                  · exact .inr ⟨h1, by omega⟩
                clear hn'
                by_cases hmin : (9218868437227405312 : Int) < (b : Int)
                · have CS := Lib.hid fun w => fsigned64_any neg 9218868437227405312 w (by decide)
                  have hmm : min b 9218868437227405312 = 9218868437227405312 := Nat.min_eq_right (by omega)
                  have HMI := Lib.hid hmm
                  clear hmm
                  rcases hcas with ⟨rfl, q6⟩ | ⟨rfl, q6⟩
                  all_goals
                    go_wp2_with fail
                    go_region_held3 (fun w' => FB64 w w') (first | assumption | exact HF5.out) (first | (go_at_call 78; refine (CS.out _).mono ?_; rintro e w3 ⟨rfl, hb⟩; have hs := FB64.step (w := w) (by assumption) hb; clear hb))
                    all_goals go_wp2_with fail
                    all_goals
                      go_ret
                      exact ⟨b, HR.out, by rw [HMI.out]; rfl, FB64.below (by assumption)⟩
                · have CS := Lib.hid fun w => fsigned64_any neg b w (by omega)
                  have HIF := Lib.hid (if_neg hmin : (if (9218868437227405312 : Int) < (b : Int) then (9218868437227405312 : Int) else (b : Int)) = (b : Int))
                  have hmm : min b 9218868437227405312 = b := Nat.min_eq_left (by omega)
                  have HMI := Lib.hid hmm
                  clear hmm
                  rcases hcas with ⟨rfl, q6⟩ | ⟨rfl, q6⟩
                  all_goals
                    go_wp2_with fail
                    go_region_held3 (fun w' => FB64 w w') (first | assumption | exact HF5.out) (first | (go_at_call 78; (try rw [HIF.out]); refine (CS.out _).mono ?_; rintro e w3 ⟨rfl, hb⟩; have hs := FB64.step (w := w) (by assumption) hb; clear hb))
                    all_goals go_wp2_with fail
                    all_goals
                      go_ret
                      exact ⟨b, HR.out, by rw [HMI.out]; rfl, FB64.below (by assumption)⟩
            · obtain ⟨i, rfl⟩ : ∃ i, j = i + 1 := ⟨j - 1, by omega⟩
              have ei : ((i + 1 : Nat) : Int) - 1 = (i : Int) := by omega
              rw [ei]
              obtain ⟨o1, o2, o3⟩ := or_step HMOD.out (by omega) HNN.out
              have hmX : m * 2 ^ 64 < 2 ^ (32 * K2) := by
                refine Nat.lt_of_le_of_lt (Nat.mul_le_mul_right _ ?_) HXK.out
                have := HXE.out; omega
              have hmL : m < 2 ^ (32 * K2) := lt_of_shl hmX
              have hYi : Y * 2 ^ i < 2 ^ (32 * K2) := by
                refine Nat.lt_of_le_of_lt (Nat.mul_le_mul_left _ (Nat.pow_le_pow_right (by omega) (by omega))) HYK.out
              have C1 := Lib.hid (natShl (s := i) K2 (by omega) HD.out (lt_of_shl HYK.out) (by omega))
              have HML := Lib.hid hmL
              have HYI := Lib.hid hYi
              generalize hpw : nn + 2 ^ i = nn2 at o1 o2 o3
              have HPW := Lib.hid hpw
              clear ei hmX hmL hYi hpw hj0
              by_cases hc : m < Y * 2 ^ i
              · have hcm := Lib.hid (cmpI_lt hc)
                have HC := Lib.hid hc
                clear hc o1 o2 o3
                go_wp2_with fail
                refine (C1.out).mono ?_
                rintro e w1 ⟨v1, rfl, n1, b1⟩
                have C2 := Lib.hid (natCmp K2 (by omega) (HM.out.below b1) n1 HML.out HYI.out)
                have B1 := Lib.hid b1
                clear n1 b1
                go_wp2_with fail
                refine (C2.out).mono ?_
                rintro e w2 ⟨rfl, rfl⟩
                rw [hcm.out]
                go_wp2_with fail
                go_roundw
                case rel => exact ⟨⟨i, nn, m, rfl, rfl, HM.out.below B1.out, HD.out.below B1.out, HXE.out, HC.out, mod_step1 HMOD.out, HNN.out, by omega⟩, FB64.step HF3.out B1.out⟩
                case measure => simp [msCmp, intOf]
              · have hcm := cmpI_ge hc
                generalize hcd : cmpI m (Y * 2 ^ i) = c at hcm
                have HCD := Lib.hid hcd
                have HC := Lib.hid hc
                clear hc hcd
                go_wp2_with fail
                refine (C1.out).mono ?_
                rintro e w1 ⟨v1, rfl, n1, b1⟩
                have C2 := Lib.hid (natCmp K2 (by omega) (HM.out.below b1) n1 HML.out HYI.out)
                have C3 := Lib.hid (natSub K2 (by omega) (HM.out.below b1) n1 HML.out (Nat.le_of_not_lt HC.out))
                have B1 := Lib.hid b1
                clear n1 b1
                go_wp2_with fail
                refine (C2.out).mono ?_
                rintro e w2 ⟨rfl, rfl⟩
                rw [HCD.out]
                go_wp2_with fail
                refine (C3.out).mono ?_
                rintro e w3 ⟨v3, rfl, n3, b3⟩
                have HN3 := Lib.hid n3
                have B3 := Lib.hid (below_trans' B1.out b3)
                clear n3 b3
                go_wp2_with fail
                go_roundw
                case rel =>
                  refine ⟨⟨i, nn2, m - Y * 2 ^ i, rfl, ?_, HN3.out, HD.out.below B3.out, ?_, msb_lt (X := 0) (nn := 0) HMY.out HC.out, ?_, ?_, by omega⟩, FB64.step HF3.out B3.out⟩
                  · first | rfl | (congr 1)
                  · rw [← HPW.out]; exact div_step HXE.out HC.out
                  · rw [← HPW.out]; exact mod_step2 HMOD.out
                  · rw [← HPW.out]
                    exact nn_bound HXE.out HMY.out HC.out HXL.out hY
                case measure => simp [msCmp, intOf]
def RoundPost32 (neg : Bool) (num den : Nat) (E : Int) (w : World) : Ending → World → Prop := fun e w' =>
  ∃ b, IsRnd 23 (numA num E) (numB den E) b ∧ e = .returned (.int .u64 ((sgn32 neg (min b 2139095040) : Nat) : Int)) ∧ Below w.heap.size w w'

set_option maxRecDepth 100000 in
set_option maxHeartbeats 4000000 in
theorem round32_any (w : World) (neg : Bool) (va vb : Value) (num den K : Nat) (ex E : Int) (hK : K ≤ 2000) (hE : Hid (E = ex + 149)) (he1 : -150000 ≤ ex) (he2 : ex ≤ 150000) (ha : NatAt w va num) (hb : NatAt w vb den) (la : num < 2 ^ (32 * K)) (lb : den < 2 ^ (32 * K)) (hd : 0 < den) :
    Calls Try.prog 57 #[.agg #[.int .i64 24, .int .i64 23, .int .i64 (-149), .int .u64 255, .int .u64 2147483648], .bool neg, va, vb, .int .i64 ex] w (RoundPost32 neg num den E w) := by
  have HF0 := Lib.hid (FB32.start0 w)
  have HFd := Lib.hid (FB32.start w)
  have hba : Below w.heap.size w (w.alloc (.cells #[.int .i64 24, .int .i64 23, .int .i64 (-149), .int .u64 255, .int .u64 2147483648] 26)).drew := (FB32.start w).below
  have HA := Lib.hid (ha.below hba)
  have HB := Lib.hid (hb.below hba)
  have LA := Lib.hid la
  have LB := Lib.hid lb
  obtain ⟨A, k, cap, ds, rfl, hr, hdv, ht⟩ := ha.form
  by_cases h0 : num = 0
  · have hk : k = 0 := by
      rcases ht with h | h
      · exact h
      · have := top_le (K := 0) hr.len (.inr h) (by rw [hdv, h0]; simp)
        omega
    subst hk
    have hz : IsRnd 23 (numA num E) (numB den E) 0 := rnd_zero (by rw [h0]; simp [numA])
    have HZ := Lib.hid hz
    have CS := Lib.hid fun w => fsigned32_any neg 0 w (by omega)
    clear ha hb la lb hr hdv ht hba h0 hz
    go_enter Try.func57, Try.ntmps57
    go_wp2_with fail
    refine (CS.out _).mono ?_
    rintro e w1 ⟨rfl, hb⟩
    have HW := Lib.hid (FB32.step HF0.out hb).below
    clear hb
    go_wp2_with fail
    go_ret
    exact ⟨0, HZ.out, by rw [Nat.zero_min]; rfl, HW.out⟩
  · have hk0 : ((k : Int) == 0) = false := by
      refine beq_eq_false_iff_ne.mpr ?_
      intro hk
      have : k = 0 := by omega
      subst this
      have e : ds = [] := List.length_eq_zero_iff.mp hr.len
      subst e
      exact h0 hdv.symm
    have CL := Lib.hid (log_any _ _ _ num den K (by omega) HA.out HB.out la lb (by omega) hd)
    clear ha hb la lb hr hdv ht hba
    go_enter Try.func57, Try.ntmps57
    go_wp2_with fail
    go_cut [11] (fun q wx => ∃ (lg : Int) (kk : Nat), q = .int .i64 ((kk : Int) - 149) ∧ Lg num den lg ∧ lg ≤ 32 * K ∧ (kk : Int) = max (lg + E - 23) 0 ∧ FB32 w wx ∧ NatAt wx (.slice A k cap) num ∧ NatAt wx vb den)
    case first =>
      go_region_held3 (fun w' => FB32 w w') (first | assumption | exact HFd.out) (first | (go_at_call 79; refine (CL.out).mono ?_; rintro e w1 ⟨lg, rfl, hlg, hl1, hl2, hb⟩; have s1 : IntKind.i64.wrap (lg + ex) = lg + ex := IntWalk.i64_in _ (by omega); have s2 : IntKind.i64.wrap (lg + ex - 24) = lg + ex - 24 := IntWalk.i64_in _ (by omega); have s3 : IntKind.i64.wrap (lg + ex - 24 + 1) = lg + ex - 24 + 1 := IntWalk.i64_in _ (by omega); have hs := FB32.step (w := w) (by assumption) hb; have HLG := Lib.hid hlg; have HBB := Lib.hid hb; clear hb hlg))
      all_goals go_wp2_with fail
      all_goals
        go_meet
        have hEE := hE.out
        refine ⟨lg, (max (lg + E - 23) 0).toNat, ?_, HLG.out, by omega, by omega, by assumption, HA.out.below HBB.out, HB.out.below HBB.out⟩
        congr 1
        clear s1 s2 s3
        omega
    case rest =>
      obtain ⟨lg, kk, rfl, hlg, hlgb, hkk, hfb, hna, hnb⟩ := hcut
      have HFB := Lib.hid hfb
      have HNA := Lib.hid hna
      have HNB := Lib.hid hnb
      have hEE := hE.out
      have hkk2 : kk ≤ 300000 := by omega
      have HLG := Lib.hid hlg
      have HKK := Lib.hid hkk
      have HEE := Lib.hid hEE
      obtain ⟨X, hXd⟩ : ∃ X, X = num * 2 ^ (E - kk).toNat := ⟨_, rfl⟩
      obtain ⟨Y, hYd⟩ : ∃ Y, Y = den * 2 ^ (-(E - kk)).toNat := ⟨_, rfl⟩
      have hY : 0 < Y := by rw [hYd]; exact Nat.mul_pos hd (two_pow_pos _)
      have hRR : ∀ n r n', X = n * Y + r → r < Y → (((Y < 2 * r ∨ (2 * r = Y ∧ n % 2 = 1)) ∧ n' = n + 1) ∨ (¬ (Y < 2 * r ∨ (2 * r = Y ∧ n % 2 = 1)) ∧ n' = n)) →
          IsRnd 23 (numA num E) (numB den E) (kk * 2 ^ 23 + n') ∧ n' ≤ 2 ^ (23 + 1) ∧ (kk = 0 ∨ 2 ^ 23 ≤ n') := by
        intro n r n' e1 e2 e3
        subst hXd hYd
        exact round_rung (by omega) (by omega) hd hlg hkk e1 e2 e3
      have hXlt : X < 2 ^ 24 * Y := by
        subst hXd hYd
        exact hlg.upper (F := 23) (s := E - kk) (by omega)
      have HRR := Lib.hid hRR
      have HXL := Lib.hid hXlt
      obtain ⟨c0, c1, c2, c3, c4, c5, c6⟩ := hfb
      clear hna hnb hlg hkk hEE hRR hXlt c5 c6
      by_cases hbig : (255 : Int) < (kk : Int)
      · go_wp2_with fail
        refine (finfv32_any neg _).mono ?_
        rintro e w1 ⟨rfl, hb⟩
        have HW := Lib.hid (FB32.step HFB.out hb).below
        clear hb
        go_wp2_with fail
        go_ret
        obtain ⟨b, r1, r2⟩ := round_far HRR.out hY (show 255 < kk by omega)
        have hm : min b 2139095040 = 2139095040 := Nat.min_eq_right r2
        refine ⟨b, r1, ?_, HW.out⟩
        rw [hm]
        rfl
      · go_upto_if 47 with (fail)
        go_cut [2, 3] (fun a d wx => NatAt wx a X ∧ NatAt wx d Y ∧ FB32 w wx)
        case first =>
          by_cases hs : (kk : Int) - 149 ≤ ex
          · obtain ⟨s, hsd⟩ : ∃ s : Nat, (s : Int) = E - kk := ⟨(E - kk).toNat, by have := HEE.out; omega⟩
            have hse : ex - ((kk : Int) - 149) = (s : Int) := by have := HEE.out; omega
            have hs1 : s ≤ 400000 := by have := HEE.out; omega
            have eX : X = num * 2 ^ s := by rw [hXd, ← hsd]; simp
            have eY : Y = den := by rw [hYd, ← hsd]; simp
            have C1 := Lib.hid (natShl (s := s) K (by omega) HNA.out LA.out (by omega))
            rw [← eX] at C1
            have HY := Lib.hid eY
            clear eX eY hsd hXd hYd
            go_wp2_with fail
            refine (C1.out).mono ?_
            rintro e w1 ⟨v1, rfl, n1, b1⟩
            have hs2 := FB32.step HFB.out b1
            have hn2 := HNB.out.below b1
            have HH := Lib.hid (And.intro n1 (And.intro (show NatAt w1 vb Y by rw [HY.out]; exact hn2) hs2))
            clear n1 b1 hs2 hn2
            go_wp2_with fail
            go_meet
            exact HH.out
          · obtain ⟨s, hsd⟩ : ∃ s : Nat, (s : Int) = -(E - kk) := ⟨(-(E - kk)).toNat, by have := HEE.out; omega⟩
            have hse : ((kk : Int) - 149) - ex = (s : Int) := by have := HEE.out; omega
            have hs1 : s ≤ 400000 := by have := HEE.out; omega
            have eX : X = num := by
              rw [hXd, show (E - kk).toNat = 0 by omega]; simp
            have eY : Y = den * 2 ^ s := by rw [hYd, ← hsd]; simp
            have C1 := Lib.hid (natShl (s := s) K (by omega) HNB.out LB.out (by omega))
            rw [← eY] at C1
            have HX := Lib.hid eX
            clear eX eY hsd hXd hYd
            go_wp2_with fail
            refine (C1.out).mono ?_
            rintro e w1 ⟨v1, rfl, n1, b1⟩
            have hs2 := FB32.step HFB.out b1
            have hn2 := HNA.out.below b1
            have HH := Lib.hid (And.intro (show NatAt w1 (.slice A k cap) X by rw [HX.out]; exact hn2) (And.intro n1 hs2))
            clear n1 b1 hs2 hn2
            go_wp2_with fail
            go_meet
            exact HH.out
        case rest =>
          obtain ⟨hx, hy, hf⟩ := hcut
          have HX := Lib.hid hx
          have HYN := Lib.hid hy
          have HF2 := Lib.hid hf
          obtain ⟨b0, b1, b2, b3, b4, b5, b6⟩ := hf
          obtain ⟨K2, hK2, hXK, hYK⟩ : ∃ K2, K2 ≤ 900000 ∧ X * 2 ^ 64 < 2 ^ (32 * K2) ∧ Y * 2 ^ 64 < 2 ^ (32 * K2) := by
            refine ⟨K + 13000, by omega, ?_, ?_⟩
            · rw [hXd]; exact shl_bound LA.out (by have := HEE.out; omega)
            · rw [hYd]; exact shl_bound LB.out (by have := HEE.out; omega)
          have HXK := Lib.hid hXK
          have HYK := Lib.hid hYK
          have H0 : RdRel 24 X Y u3 u2 (.int .u64 0) (.int .i64 24) wc := ⟨24 + 1, 0, X, rfl, rfl, HX.out, HYN.out, by omega, by rw [pow_succ2, Nat.mul_left_comm, Nat.mul_comm Y]; have := HXL.out; omega, by simp, by omega, by omega⟩
          clear hx hy hXK hYK hXd hYd b5 b6
          go_wp2_with fail
          go_loopw [2, 12, 13, 14] (fun a n i d wr => RdRel 24 X Y u3 a n i wr ∧ FB32 w wr) (fun a n i d wr => msCmp i)
          case atStart => exact ⟨H0, HF2.out⟩
          case round =>
            obtain ⟨hr1, hr2⟩ := hrel
            obtain ⟨j, nn, m, rfl, rfl, hm, hyd, hXe, hmY, hmod, hnn, hj⟩ := hr1.ex
            have HM := Lib.hid hm
            have HD := Lib.hid hyd
            have HXE := Lib.hid hXe
            have HMY := Lib.hid hmY
            have HMOD := Lib.hid hmod
            have HNN := Lib.hid hnn
            have HF3 := Lib.hid hr2
            clear hm hyd hXe hmY hmod hnn hr1 hr2 H0 b0 b1 b2 b3 b4 c0 c1 c2 c3 c4
            by_cases hj0 : j = 0
            · subst hj0
              have hmY : m < Y := by simpa using HMY.out
              have hmX : m * 2 ^ 64 < 2 ^ (32 * K2) := by
                refine Nat.lt_of_le_of_lt (Nat.mul_le_mul_right _ ?_) HXK.out
                have := HXE.out; omega
              have hm2 : m * 2 ^ 1 < 2 ^ (32 * K2) := by
                refine Nat.lt_of_le_of_lt (Nat.mul_le_mul_left _ (Nat.pow_le_pow_right (by omega) (by omega))) hmX
              have C1 := Lib.hid (natShl (s := 1) K2 (by omega) HM.out (lt_of_shl hmX) (by omega))
              have HM2 := Lib.hid hm2
              have a1 := and_one .u64 nn (by decide) (Nat.lt_trans HNN.out (by decide))
              obtain ⟨up, hup⟩ : ∃ up : Bool, up = decide (Y < 2 * m ∨ (2 * m = Y ∧ nn % 2 = 1)) := ⟨_, rfl⟩
              have HUP := Lib.hid hup
              have HMM := Lib.hid hmY
              clear hmX hm2 hup hmY
              go_wp2_with fail
              refine (C1.out).mono ?_
              rintro e w1 ⟨v1, rfl, n1, b1⟩
              have C2 := Lib.hid (natCmp K2 (by omega) n1 (HD.out.below b1) HM2.out (lt_of_shl HYK.out))
              have HF4 := Lib.hid (FB32.step HF3.out b1)
              clear n1 b1
              go_wp2_with fail
              refine (C2.out).mono ?_
              rintro e w2 ⟨rfl, rfl⟩
              generalize hcd : cmpI (m * 2 ^ 1) Y = c
              have HCD := Lib.hid hcd
              clear hcd
              go_upto_region 18 with (fail)
              go_cut [92] (fun b wx => b = .bool up ∧ wx = w1)
              case first =>
                rcases Nat.lt_trichotomy (2 * m) Y with h1 | h1 | h1
                · have ec : c = -1 := by rw [← HCD.out]; exact cmpI_lt (by omega)
                  have eu : up = false := by rw [HUP.out]; exact decide_eq_false (by omega)
                  have HEU := Lib.hid eu
                  subst ec
                  clear eu h1
                  go_wp2_with fail
                  go_meet
                  exact ⟨by rw [HEU.out], rfl⟩
                · have ec : c = 0 := by
                    rw [← HCD.out]; unfold cmpI; rw [if_neg (by omega), if_pos (by omega)]
                  subst ec
                  rcases Nat.mod_two_eq_zero_or_one nn with hp | hp
                  · have eu : up = false := by rw [HUP.out]; exact decide_eq_false (by omega)
                    have HEU := Lib.hid eu
                    rw [hp] at a1
                    clear eu h1 hp
                    go_wp2_with fail
                    go_meet
                    exact ⟨by rw [HEU.out], rfl⟩
                  · have eu : up = true := by rw [HUP.out]; exact decide_eq_true (by omega)
                    have HEU := Lib.hid eu
                    rw [hp] at a1
                    clear eu h1 hp
                    go_wp2_with fail
                    go_meet
                    exact ⟨by rw [HEU.out], rfl⟩
                · have ec : c = 1 := by
                    rw [← HCD.out]; unfold cmpI; rw [if_neg (by omega), if_neg (by omega)]
                  have eu : up = true := by rw [HUP.out]; exact decide_eq_true (by omega)
                  have HEU := Lib.hid eu
                  subst ec
                  clear eu h1
                  go_wp2_with fail
                  go_meet
                  exact ⟨by rw [HEU.out], rfl⟩
              case rest =>
                obtain ⟨rfl, rfl⟩ := hcut
                have HF5 := Lib.hid (HF4.out).drew
                obtain ⟨n', hn', hR, hn2⟩ : ∃ n', ((up = true ∧ n' = nn + 1) ∨ (up = false ∧ n' = nn)) ∧ IsRnd 23 (numA num E) (numB den E) (kk * 2 ^ 23 + n') ∧ n' ≤ 2 ^ (23 + 1) := by
                  cases hu : up
                  · have hnu : ¬ (Y < 2 * m ∨ (2 * m = Y ∧ nn % 2 = 1)) := of_decide_eq_false (HUP.out.symm.trans hu)
                    have := HRR.out nn m nn HXE.out HMM.out (.inr ⟨hnu, rfl⟩)
                    exact ⟨nn, .inr ⟨rfl, rfl⟩, this.1, this.2.1⟩
                  · have hnu : Y < 2 * m ∨ (2 * m = Y ∧ nn % 2 = 1) := of_decide_eq_true (HUP.out.symm.trans hu)
                    have := HRR.out nn m (nn + 1) HXE.out HMM.out (.inl ⟨hnu, rfl⟩)
                    exact ⟨nn + 1, .inl ⟨rfl, rfl⟩, this.1, this.2.1⟩
                have hkT : kk ≤ 255 := by omega
                have hn2' : n' ≤ 16777216 := hn2
                have q1 : IntKind.i64.wrap (kk : Int) = (kk : Int) := IntWalk.i64_in _ (by omega)
                have q7 : IntKind.u64.wrap (n' : Int) = (n' : Int) := wrap_u64_nat (by omega)
                have q2 : IntKind.u64.wrap (kk : Int) = (kk : Int) := wrap_u64_nat (by omega)
                obtain ⟨kp, hkp⟩ : ∃ kp, kp = kk * 8388608 := ⟨_, rfl⟩
                obtain ⟨b, hbd⟩ : ∃ b, b = kp + n' := ⟨_, rfl⟩
                have q3 : IntKind.u64.wrap ((kk : Int) * 8388608) = (kp : Int) := by rw [IntKind.wrap_u64]; omega
                have q4 : IntKind.u64.wrap ((kp : Int) + (n' : Int)) = (b : Int) := by rw [IntKind.wrap_u64]; omega
                have q5 : IntKind.u64.wrap (2139095040 : Int) = 2139095040 := by rw [IntKind.wrap_u64]; rfl
                have HR := Lib.hid (show IsRnd 23 (numA num E) (numB den E) b by rw [hbd, hkp]; exact hR)
                have HF6 := Lib.hid HF5.out.drew
                clear hR hn2 hn2' hkT hkk2 hbig hkp hbd
                obtain ⟨t0, t1, t2, t3, t4, t5, t6⟩ := HF4.out
                clear t5 t6
                have hcas : (up = true ∧ (nn : Int) + 1 = (n' : Int)) ∨ (up = false ∧ (nn : Int) = (n' : Int)) := by
                  rcases hn' with ⟨h1, h2⟩ | ⟨h1, h2⟩
                  · exact .inl ⟨h1, by omega⟩
                  · exact .inr ⟨h1, by omega⟩
                clear hn'
                by_cases hmin : (2139095040 : Int) < (b : Int)
                · have CS := Lib.hid fun w => fsigned32_any neg 2139095040 w (by decide)
                  have hmm : min b 2139095040 = 2139095040 := Nat.min_eq_right (by omega)
                  have HMI := Lib.hid hmm
                  clear hmm
                  rcases hcas with ⟨rfl, q6⟩ | ⟨rfl, q6⟩
                  all_goals
                    go_wp2_with fail
                    go_region_held3 (fun w' => FB32 w w') (first | assumption | exact HF5.out) (first | (go_at_call 78; refine (CS.out _).mono ?_; rintro e w3 ⟨rfl, hb⟩; have hs := FB32.step (w := w) (by assumption) hb; clear hb))
                    all_goals go_wp2_with fail
                    all_goals
                      go_ret
                      exact ⟨b, HR.out, by rw [HMI.out]; rfl, FB32.below (by assumption)⟩
                · have CS := Lib.hid fun w => fsigned32_any neg b w (by omega)
                  have HIF := Lib.hid (if_neg hmin : (if (2139095040 : Int) < (b : Int) then (2139095040 : Int) else (b : Int)) = (b : Int))
                  have hmm : min b 2139095040 = b := Nat.min_eq_left (by omega)
                  have HMI := Lib.hid hmm
                  clear hmm
                  rcases hcas with ⟨rfl, q6⟩ | ⟨rfl, q6⟩
                  all_goals
                    go_wp2_with fail
                    go_region_held3 (fun w' => FB32 w w') (first | assumption | exact HF5.out) (first | (go_at_call 78; (try rw [HIF.out]); refine (CS.out _).mono ?_; rintro e w3 ⟨rfl, hb⟩; have hs := FB32.step (w := w) (by assumption) hb; clear hb))
                    all_goals go_wp2_with fail
                    all_goals
                      go_ret
                      exact ⟨b, HR.out, by rw [HMI.out]; rfl, FB32.below (by assumption)⟩
            · obtain ⟨i, rfl⟩ : ∃ i, j = i + 1 := ⟨j - 1, by omega⟩
              have ei : ((i + 1 : Nat) : Int) - 1 = (i : Int) := by omega
              rw [ei]
              obtain ⟨o1, o2, o3⟩ := or_step HMOD.out (by omega) HNN.out
              have hmX : m * 2 ^ 64 < 2 ^ (32 * K2) := by
                refine Nat.lt_of_le_of_lt (Nat.mul_le_mul_right _ ?_) HXK.out
                have := HXE.out; omega
              have hmL : m < 2 ^ (32 * K2) := lt_of_shl hmX
              have hYi : Y * 2 ^ i < 2 ^ (32 * K2) := by
                refine Nat.lt_of_le_of_lt (Nat.mul_le_mul_left _ (Nat.pow_le_pow_right (by omega) (by omega))) HYK.out
              have C1 := Lib.hid (natShl (s := i) K2 (by omega) HD.out (lt_of_shl HYK.out) (by omega))
              have HML := Lib.hid hmL
              have HYI := Lib.hid hYi
              generalize hpw : nn + 2 ^ i = nn2 at o1 o2 o3
              have HPW := Lib.hid hpw
              clear ei hmX hmL hYi hpw hj0
              by_cases hc : m < Y * 2 ^ i
              · have hcm := Lib.hid (cmpI_lt hc)
                have HC := Lib.hid hc
                clear hc o1 o2 o3
                go_wp2_with fail
                refine (C1.out).mono ?_
                rintro e w1 ⟨v1, rfl, n1, b1⟩
                have C2 := Lib.hid (natCmp K2 (by omega) (HM.out.below b1) n1 HML.out HYI.out)
                have B1 := Lib.hid b1
                clear n1 b1
                go_wp2_with fail
                refine (C2.out).mono ?_
                rintro e w2 ⟨rfl, rfl⟩
                rw [hcm.out]
                go_wp2_with fail
                go_roundw
                case rel => exact ⟨⟨i, nn, m, rfl, rfl, HM.out.below B1.out, HD.out.below B1.out, HXE.out, HC.out, mod_step1 HMOD.out, HNN.out, by omega⟩, FB32.step HF3.out B1.out⟩
                case measure => simp [msCmp, intOf]
              · have hcm := cmpI_ge hc
                generalize hcd : cmpI m (Y * 2 ^ i) = c at hcm
                have HCD := Lib.hid hcd
                have HC := Lib.hid hc
                clear hc hcd
                go_wp2_with fail
                refine (C1.out).mono ?_
                rintro e w1 ⟨v1, rfl, n1, b1⟩
                have C2 := Lib.hid (natCmp K2 (by omega) (HM.out.below b1) n1 HML.out HYI.out)
                have C3 := Lib.hid (natSub K2 (by omega) (HM.out.below b1) n1 HML.out (Nat.le_of_not_lt HC.out))
                have B1 := Lib.hid b1
                clear n1 b1
                go_wp2_with fail
                refine (C2.out).mono ?_
                rintro e w2 ⟨rfl, rfl⟩
                rw [HCD.out]
                go_wp2_with fail
                refine (C3.out).mono ?_
                rintro e w3 ⟨v3, rfl, n3, b3⟩
                have HN3 := Lib.hid n3
                have B3 := Lib.hid (below_trans' B1.out b3)
                clear n3 b3
                go_wp2_with fail
                go_roundw
                case rel =>
                  refine ⟨⟨i, nn2, m - Y * 2 ^ i, rfl, ?_, HN3.out, HD.out.below B3.out, ?_, msb_lt (X := 0) (nn := 0) HMY.out HC.out, ?_, ?_, by omega⟩, FB32.step HF3.out B3.out⟩
                  · first | rfl | (congr 1)
                  · rw [← HPW.out]; exact div_step HXE.out HC.out
                  · rw [← HPW.out]; exact mod_step2 HMOD.out
                  · rw [← HPW.out]
                    exact nn_bound HXE.out HMY.out HC.out HXL.out hY
                case measure => simp [msCmp, intOf]
end Go.Proofs.Ytdadcbjhjmdheaa.SF
