/-
  The walk through funpack64 and funpack32.
-/
import Derived.Test.YtpjanmahbimhkaaRows
import Derived.Test.YtpjanmahbimhkaaUnp
import Derived.WalkKit
import Derived.ProofKit
import Derived.OpenShut
import Derived.WalkLawsBesides
import Derived.WalkSpells
import Derived.Deep.DeepCutAuto
import Derived.Lib.Hide
namespace Go.Proofs.Ytpjanmahbimhkaa.SF
open Go.ChangeShapes Go.WideShapes Go.ChangeAt Go.RowKit
set_option linter.unusedVariables false

theorem results_tmp5 {fn : Func} {t u v x y : Tmp} (h : fn.results = #[.tmp t, .tmp u, .tmp v, .tmp x, .tmp y]) (tmps : Array Value) (P : Program) (w : World) :
    (results fn tmps).run P w = .ok (.tuple #[tmps.getD t undef, tmps.getD u undef, tmps.getD v undef, tmps.getD x undef, tmps.getD y undef]) w := by simp [results, h]

def msUn64 (a : Value) : Nat := 4503599627370496 - (intOf a).toNat

/-- the loop of the small numbers: the fraction f has been doubled i times -/
def UnL64 (f : Nat) (a b : Value) : Prop := ∃ i : Nat, a = .int .u64 ((f * 2 ^ i : Nat) : Int) ∧ b = .int .i64 (-1022 - (i : Int)) ∧ i + f.log2 ≤ 52

theorem UnL64.bound {f i : Nat} (hf : 0 < f) (hi : i + f.log2 ≤ 52) : f * 2 ^ i < 9007199254740992 ∧ 0 < f * 2 ^ i := by
  have h := log2_pow_lt f
  refine ⟨?_, Nat.mul_pos hf (two_pow_pos i)⟩
  calc f * 2 ^ i < 2 ^ (f.log2 + 1) * 2 ^ i := Nat.mul_lt_mul_of_pos_right h (two_pow_pos i)
    _ = 2 ^ (f.log2 + 1 + i) := by rw [← Nat.pow_add]
    _ ≤ 2 ^ (52 + 1) := Nat.pow_le_pow_right (by omega) (by omega)

theorem UnL64.more {f i : Nat} (hf : 0 < f) (hi : i + f.log2 ≤ 52) (h : f * 2 ^ i < 4503599627370496) : i + 1 + f.log2 ≤ 52 := by
  have h1 := log2_pow_le hf
  have h2 : 2 ^ f.log2 * 2 ^ i < 2 ^ 52 := Nat.lt_of_le_of_lt (Nat.mul_le_mul_right _ h1) h
  rw [← Nat.pow_add] at h2
  have := (Nat.pow_lt_pow_iff_right (a := 2) (by omega)).mp h2
  omega

theorem UnL64.last {f i : Nat} (hf : 0 < f) (hi : i + f.log2 ≤ 52) (h : ¬ f * 2 ^ i < 4503599627370496) : i = 52 - f.log2 := by
  have h1 := log2_pow_lt f
  have h2 : 2 ^ 52 < 2 ^ (f.log2 + 1) * 2 ^ i := by
    refine Nat.lt_of_le_of_lt (Nat.le_of_not_lt h) ?_
    exact Nat.mul_lt_mul_of_pos_right h1 (two_pow_pos i)
  rw [← Nat.pow_add] at h2
  have := (Nat.pow_lt_pow_iff_right (a := 2) (by omega)).mp h2
  omega

def Tup564 (x : Nat) (w : World) : Ending → World → Prop := fun e w' =>
  e = .returned (.tuple #[.int .u64 (sb64 x : Int), .int .u64 (um64 x : Int), .int .i64 (ue64 x), .bool (isInf64 x), .bool (isNaN64 x)]) ∧ w = w'

theorem Tup564.mk {x : Nat} {w : World} {m : Nat} {ex : Int} {i n : Bool} (h1 : um64 x = m) (h2 : ue64 x = ex) (h3 : isInf64 x = i) (h4 : isNaN64 x = n) :
    Tup564 x w (.returned (.tuple #[.int .u64 (sb64 x : Int), .int .u64 (m : Int), .int .i64 ex, .bool i, .bool n])) w := by
  subst h1 h2 h3 h4
  exact ⟨rfl, rfl⟩

theorem unp_fields64 (x : Nat) : mag64 x = mag64 x / 4503599627370496 * 4503599627370496 + mag64 x % 4503599627370496 ∧ mag64 x / 4503599627370496 ≤ 2047 ∧ mag64 x % 4503599627370496 < 4503599627370496 := by
  have := mag_lt64 x
  omega

theorem um_top64 {x f : Nat} (hE : mag64 x / 4503599627370496 = 2047) (hf : mag64 x % 4503599627370496 = f) : um64 x = f ∧ ue64 x = 2047 := by
  constructor
  · show um 52 2047 (mag64 x) = f
    unfold um
    rw [if_neg (by show ¬ mag64 x / 4503599627370496 = 0; omega), if_pos hE]; exact hf
  · show ue 52 2047 1023 (mag64 x) = 2047
    unfold ue
    rw [if_neg (by show ¬ mag64 x / 4503599627370496 = 0; omega), if_pos hE]; rfl
theorem um_nought64 {x : Nat} (hE : mag64 x / 4503599627370496 = 0) (hf : mag64 x % 4503599627370496 = 0) : um64 x = 0 ∧ ue64 x = 0 := by
  constructor
  · show um 52 2047 (mag64 x) = 0
    unfold um
    rw [if_pos hE, if_pos hf]
  · show ue 52 2047 1023 (mag64 x) = 0
    unfold ue
    rw [if_pos hE, if_pos hf]
theorem um_small64 {x f : Nat} (hE : mag64 x / 4503599627370496 = 0) (hf : mag64 x % 4503599627370496 = f) (h0 : f ≠ 0) : um64 x = f * 2 ^ (52 - f.log2) ∧ ue64 x = -1022 - ((52 - f.log2 : Nat) : Int) := by
  subst hf
  constructor
  · show um 52 2047 (mag64 x) = _
    unfold um
    rw [if_pos hE, if_neg h0]
  · show ue 52 2047 1023 (mag64 x) = _
    unfold ue
    rw [if_pos hE, if_neg h0]
    show (1 : Int) - 1023 - ((52 - (mag64 x % 4503599627370496).log2 : Nat) : Int) = _
    omega
theorem um_norm64 {x f E : Nat} (hE : mag64 x / 4503599627370496 = E) (hf : mag64 x % 4503599627370496 = f) (h0 : E ≠ 0) (h1 : E ≠ 2047) : um64 x = 4503599627370496 + f ∧ ue64 x = (E : Int) - 1023 := by
  subst hf hE
  constructor
  · show um 52 2047 (mag64 x) = _
    unfold um
    rw [if_neg h0, if_neg h1]
  · show ue 52 2047 1023 (mag64 x) = _
    unfold ue
    rw [if_neg h0, if_neg h1]
    rfl

set_option maxRecDepth 100000 in
set_option maxHeartbeats 1000000 in
theorem funpack64_any (x : Nat) (w : World) (hx : x < 18446744073709551616) : Calls Try.prog 93 #[.int .u64 (x : Int)] w (Tup564 x w) := by
  have a1 := unp_and164 hx
  have a2 := unp_and264 hx
  have a3 := unp_and364 hx
  obtain ⟨hm, hE, hf⟩ := unp_fields64 x
  generalize hfd : mag64 x % 4503599627370496 = f at a2 hf hm
  generalize hEd : mag64 x / 4503599627370496 = E at a3 hE hm
  have HX := Lib.hid hx
  have HM := Lib.hid hm
  have HF := Lib.hid hfd
  have HE := Lib.hid hEd
  clear hx hm hfd hEd
  by_cases hT : E = 2047
  · have eT : ((E : Int) == 2047) = true := by simp [hT]
    have HT := Lib.hid hT
    clear hT
    by_cases h0 : f = 0
    · have e0 : ((f : Int) != 0) = false := by simp [h0]
      have H0 := Lib.hid h0
      clear h0
      go_enter Try.func93, Try.ntmps93
      go_wp2_with fail
      refine bodyPost_ret (results_tmp5 rfl _ _ _) rfl ?_
      have t := um_top64 (HE.out.trans HT.out) HF.out
      have hi : isInf64 x = true := by unfold isInf64; apply decide_eq_true; have := HM.out; have := HT.out; have := H0.out; omega
      have hn : isNaN64 x = false := by unfold isNaN64; apply decide_eq_false; have := HM.out; have := HT.out; have := H0.out; omega
      exact Tup564.mk t.1 (t.2.trans (by have := HT.out; omega)) hi hn
    · have e0 : ((f : Int) != 0) = true := by simp [h0]
      have H0 := Lib.hid h0
      clear h0
      go_enter Try.func93, Try.ntmps93
      go_wp2_with fail
      refine bodyPost_ret (results_tmp5 rfl _ _ _) rfl ?_
      have t := um_top64 (HE.out.trans HT.out) HF.out
      have hi : isInf64 x = false := by unfold isInf64; apply decide_eq_false; have := HM.out; have := HT.out; have := H0.out; omega
      have hn : isNaN64 x = true := by unfold isNaN64; apply decide_eq_true; have := HM.out; have := HT.out; have := H0.out; omega
      exact Tup564.mk t.1 (t.2.trans (by have := HT.out; omega)) hi hn
  · have eT : ((E : Int) == 2047) = false := by simp; omega
    have HT := Lib.hid hT
    have hi : isInf64 x = false := by unfold isInf64; apply decide_eq_false; have := HM.out; omega
    have hn : isNaN64 x = false := by unfold isNaN64; apply decide_eq_false; have := HM.out; omega
    have HI := Lib.hid hi
    have HN := Lib.hid hn
    clear hT hi hn
    by_cases hE0 : E = 0
    · have eE : ((E : Int) == 0) = true := by simp [hE0]
      have HE0 := Lib.hid hE0
      by_cases h0 : f = 0
      · have e0 : ((f : Int) != 0) = false := by simp [h0]
        have H0 := Lib.hid h0
        clear h0 hE0
        go_enter Try.func93, Try.ntmps93
        go_wp2_with fail
        refine bodyPost_ret (results_tmp5 rfl _ _ _) rfl ?_
        have t := um_nought64 (HE.out.trans HE0.out) (HF.out.trans H0.out)
        exact Tup564.mk (t.1.trans H0.out.symm) (t.2.trans (by have := HE0.out; omega)) HI.out HN.out
      · have e0 : ((f : Int) != 0) = true := by simp [h0]
        have hpos : 0 < f := by omega
        have H0 := Lib.hid h0
        clear h0
        obtain rfl : E = 0 := hE0
        go_enter Try.func93, Try.ntmps93
        go_wp2_with fail
        go_loop [3, 4] (fun a b => UnL64 f a b) (fun a b => msUn64 a)
        case atStart =>
          refine ⟨0, by simp, by simp, ?_⟩
          have h1 := log2_pow_le hpos
          have h2 : 2 ^ f.log2 < 2 ^ 52 := Nat.lt_of_le_of_lt h1 hf
          have := (Nat.pow_lt_pow_iff_right (a := 2) (by omega)).mp h2
          omega
        case round =>
          obtain ⟨i, rfl, rfl, hi⟩ := hrel
          obtain ⟨hb1, hb2⟩ := UnL64.bound hpos hi
          have hi' : i ≤ 52 := by omega
          have HB := Lib.hid hi
          generalize hg : f * 2 ^ i = g at hb1 hb2 ⊢
          have HG := Lib.hid hg
          clear hg hi
          by_cases hlt : (g : Int) < 4503599627370496
          · go_wp2_with fail
            go_round
            case rel => exact ⟨i + 1, by rw [pow_succ2, Nat.mul_left_comm, HG.out]; go_num, by go_num, UnL64.more hpos HB.out (by rw [HG.out]; omega)⟩
            case measure => simp [msUn64, intOf]; omega
          · go_wp2_with fail
            refine bodyPost_ret (results_tmp5 rfl _ _ _) rfl ?_
            have hl := UnL64.last hpos HB.out (by rw [HG.out]; omega)
            have t := um_small64 HE.out HF.out H0.out
            exact Tup564.mk (by rw [t.1, ← hl, HG.out]) (by rw [t.2, ← hl]) HI.out HN.out
    · have eE : ((E : Int) == 0) = false := by simp; omega
      have HE0 := Lib.hid hE0
      clear hE0
      have eo : bits .or .u64 (f : Int) 4503599627370496 = ((4503599627370496 + f : Nat) : Int) := by
        rw [show ((4503599627370496 : Int)) = ((4503599627370496 : Nat) : Int) from rfl, u64_or_nat f 4503599627370496 (by omega) (by omega), Nat.or_comm, or_disjoint _ _ 52 (by omega) hf]
      go_enter Try.func93, Try.ntmps93
      go_wp2_with fail
      refine bodyPost_ret (results_tmp5 rfl _ _ _) rfl ?_
      have t := um_norm64 HE.out HF.out HE0.out HT.out
      exact Tup564.mk t.1 (t.2.trans (by omega)) HI.out HN.out
def msUn32 (a : Value) : Nat := 8388608 - (intOf a).toNat

/-- the loop of the small numbers: the fraction f has been doubled i times -/
def UnL32 (f : Nat) (a b : Value) : Prop := ∃ i : Nat, a = .int .u32 ((f * 2 ^ i : Nat) : Int) ∧ b = .int .i64 (-126 - (i : Int)) ∧ i + f.log2 ≤ 23

theorem UnL32.bound {f i : Nat} (hf : 0 < f) (hi : i + f.log2 ≤ 23) : f * 2 ^ i < 16777216 ∧ 0 < f * 2 ^ i := by
  have h := log2_pow_lt f
  refine ⟨?_, Nat.mul_pos hf (two_pow_pos i)⟩
  calc f * 2 ^ i < 2 ^ (f.log2 + 1) * 2 ^ i := Nat.mul_lt_mul_of_pos_right h (two_pow_pos i)
    _ = 2 ^ (f.log2 + 1 + i) := by rw [← Nat.pow_add]
    _ ≤ 2 ^ (23 + 1) := Nat.pow_le_pow_right (by omega) (by omega)

theorem UnL32.more {f i : Nat} (hf : 0 < f) (hi : i + f.log2 ≤ 23) (h : f * 2 ^ i < 8388608) : i + 1 + f.log2 ≤ 23 := by
  have h1 := log2_pow_le hf
  have h2 : 2 ^ f.log2 * 2 ^ i < 2 ^ 23 := Nat.lt_of_le_of_lt (Nat.mul_le_mul_right _ h1) h
  rw [← Nat.pow_add] at h2
  have := (Nat.pow_lt_pow_iff_right (a := 2) (by omega)).mp h2
  omega

theorem UnL32.last {f i : Nat} (hf : 0 < f) (hi : i + f.log2 ≤ 23) (h : ¬ f * 2 ^ i < 8388608) : i = 23 - f.log2 := by
  have h1 := log2_pow_lt f
  have h2 : 2 ^ 23 < 2 ^ (f.log2 + 1) * 2 ^ i := by
    refine Nat.lt_of_le_of_lt (Nat.le_of_not_lt h) ?_
    exact Nat.mul_lt_mul_of_pos_right h1 (two_pow_pos i)
  rw [← Nat.pow_add] at h2
  have := (Nat.pow_lt_pow_iff_right (a := 2) (by omega)).mp h2
  omega

def Tup532 (x : Nat) (w : World) : Ending → World → Prop := fun e w' =>
  e = .returned (.tuple #[.int .u32 (sb32 x : Int), .int .u32 (um32 x : Int), .int .i64 (ue32 x), .bool (isInf32 x), .bool (isNaN32 x)]) ∧ w = w'

theorem Tup532.mk {x : Nat} {w : World} {m : Nat} {ex : Int} {i n : Bool} (h1 : um32 x = m) (h2 : ue32 x = ex) (h3 : isInf32 x = i) (h4 : isNaN32 x = n) :
    Tup532 x w (.returned (.tuple #[.int .u32 (sb32 x : Int), .int .u32 (m : Int), .int .i64 ex, .bool i, .bool n])) w := by
  subst h1 h2 h3 h4
  exact ⟨rfl, rfl⟩

theorem unp_fields32 (x : Nat) : mag32 x = mag32 x / 8388608 * 8388608 + mag32 x % 8388608 ∧ mag32 x / 8388608 ≤ 255 ∧ mag32 x % 8388608 < 8388608 := by
  have := mag_lt32 x
  omega

theorem um_top32 {x f : Nat} (hE : mag32 x / 8388608 = 255) (hf : mag32 x % 8388608 = f) : um32 x = f ∧ ue32 x = 255 := by
  constructor
  · show um 23 255 (mag32 x) = f
    unfold um
    rw [if_neg (by show ¬ mag32 x / 8388608 = 0; omega), if_pos hE]; exact hf
  · show ue 23 255 127 (mag32 x) = 255
    unfold ue
    rw [if_neg (by show ¬ mag32 x / 8388608 = 0; omega), if_pos hE]; rfl
theorem um_nought32 {x : Nat} (hE : mag32 x / 8388608 = 0) (hf : mag32 x % 8388608 = 0) : um32 x = 0 ∧ ue32 x = 0 := by
  constructor
  · show um 23 255 (mag32 x) = 0
    unfold um
    rw [if_pos hE, if_pos hf]
  · show ue 23 255 127 (mag32 x) = 0
    unfold ue
    rw [if_pos hE, if_pos hf]
theorem um_small32 {x f : Nat} (hE : mag32 x / 8388608 = 0) (hf : mag32 x % 8388608 = f) (h0 : f ≠ 0) : um32 x = f * 2 ^ (23 - f.log2) ∧ ue32 x = -126 - ((23 - f.log2 : Nat) : Int) := by
  subst hf
  constructor
  · show um 23 255 (mag32 x) = _
    unfold um
    rw [if_pos hE, if_neg h0]
  · show ue 23 255 127 (mag32 x) = _
    unfold ue
    rw [if_pos hE, if_neg h0]
    show (1 : Int) - 127 - ((23 - (mag32 x % 8388608).log2 : Nat) : Int) = _
    omega
theorem um_norm32 {x f E : Nat} (hE : mag32 x / 8388608 = E) (hf : mag32 x % 8388608 = f) (h0 : E ≠ 0) (h1 : E ≠ 255) : um32 x = 8388608 + f ∧ ue32 x = (E : Int) - 127 := by
  subst hf hE
  constructor
  · show um 23 255 (mag32 x) = _
    unfold um
    rw [if_neg h0, if_neg h1]
  · show ue 23 255 127 (mag32 x) = _
    unfold ue
    rw [if_neg h0, if_neg h1]
    rfl

set_option maxRecDepth 100000 in
set_option maxHeartbeats 1000000 in
theorem funpack32_any (x : Nat) (w : World) (hx : x < 4294967296) : Calls Try.prog 92 #[.int .u32 (x : Int)] w (Tup532 x w) := by
  have a1 := unp_and132 hx
  have a2 := unp_and232 hx
  have a3 := unp_and332 hx
  obtain ⟨hm, hE, hf⟩ := unp_fields32 x
  generalize hfd : mag32 x % 8388608 = f at a2 hf hm
  generalize hEd : mag32 x / 8388608 = E at a3 hE hm
  have HX := Lib.hid hx
  have HM := Lib.hid hm
  have HF := Lib.hid hfd
  have HE := Lib.hid hEd
  clear hx hm hfd hEd
  by_cases hT : E = 255
  · have eT : ((E : Int) == 255) = true := by simp [hT]
    have HT := Lib.hid hT
    clear hT
    by_cases h0 : f = 0
    · have e0 : ((f : Int) != 0) = false := by simp [h0]
      have H0 := Lib.hid h0
      clear h0
      go_enter Try.func92, Try.ntmps92
      go_wp2_with fail
      refine bodyPost_ret (results_tmp5 rfl _ _ _) rfl ?_
      have t := um_top32 (HE.out.trans HT.out) HF.out
      have hi : isInf32 x = true := by unfold isInf32; apply decide_eq_true; have := HM.out; have := HT.out; have := H0.out; omega
      have hn : isNaN32 x = false := by unfold isNaN32; apply decide_eq_false; have := HM.out; have := HT.out; have := H0.out; omega
      exact Tup532.mk t.1 (t.2.trans (by have := HT.out; omega)) hi hn
    · have e0 : ((f : Int) != 0) = true := by simp [h0]
      have H0 := Lib.hid h0
      clear h0
      go_enter Try.func92, Try.ntmps92
      go_wp2_with fail
      refine bodyPost_ret (results_tmp5 rfl _ _ _) rfl ?_
      have t := um_top32 (HE.out.trans HT.out) HF.out
      have hi : isInf32 x = false := by unfold isInf32; apply decide_eq_false; have := HM.out; have := HT.out; have := H0.out; omega
      have hn : isNaN32 x = true := by unfold isNaN32; apply decide_eq_true; have := HM.out; have := HT.out; have := H0.out; omega
      exact Tup532.mk t.1 (t.2.trans (by have := HT.out; omega)) hi hn
  · have eT : ((E : Int) == 255) = false := by simp; omega
    have HT := Lib.hid hT
    have hi : isInf32 x = false := by unfold isInf32; apply decide_eq_false; have := HM.out; omega
    have hn : isNaN32 x = false := by unfold isNaN32; apply decide_eq_false; have := HM.out; omega
    have HI := Lib.hid hi
    have HN := Lib.hid hn
    clear hT hi hn
    by_cases hE0 : E = 0
    · have eE : ((E : Int) == 0) = true := by simp [hE0]
      have HE0 := Lib.hid hE0
      by_cases h0 : f = 0
      · have e0 : ((f : Int) != 0) = false := by simp [h0]
        have H0 := Lib.hid h0
        clear h0 hE0
        go_enter Try.func92, Try.ntmps92
        go_wp2_with fail
        refine bodyPost_ret (results_tmp5 rfl _ _ _) rfl ?_
        have t := um_nought32 (HE.out.trans HE0.out) (HF.out.trans H0.out)
        exact Tup532.mk (t.1.trans H0.out.symm) (t.2.trans (by have := HE0.out; omega)) HI.out HN.out
      · have e0 : ((f : Int) != 0) = true := by simp [h0]
        have hpos : 0 < f := by omega
        have H0 := Lib.hid h0
        clear h0
        obtain rfl : E = 0 := hE0
        go_enter Try.func92, Try.ntmps92
        go_wp2_with fail
        go_loop [3, 4] (fun a b => UnL32 f a b) (fun a b => msUn32 a)
        case atStart =>
          refine ⟨0, by simp, by simp, ?_⟩
          have h1 := log2_pow_le hpos
          have h2 : 2 ^ f.log2 < 2 ^ 23 := Nat.lt_of_le_of_lt h1 hf
          have := (Nat.pow_lt_pow_iff_right (a := 2) (by omega)).mp h2
          omega
        case round =>
          obtain ⟨i, rfl, rfl, hi⟩ := hrel
          obtain ⟨hb1, hb2⟩ := UnL32.bound hpos hi
          have hi' : i ≤ 23 := by omega
          have HB := Lib.hid hi
          generalize hg : f * 2 ^ i = g at hb1 hb2 ⊢
          have HG := Lib.hid hg
          clear hg hi
          by_cases hlt : (g : Int) < 8388608
          · go_wp2_with fail
            go_round
            case rel => exact ⟨i + 1, by rw [pow_succ2, Nat.mul_left_comm, HG.out]; go_num, by go_num, UnL32.more hpos HB.out (by rw [HG.out]; omega)⟩
            case measure => simp [msUn32, intOf]; omega
          · go_wp2_with fail
            refine bodyPost_ret (results_tmp5 rfl _ _ _) rfl ?_
            have hl := UnL32.last hpos HB.out (by rw [HG.out]; omega)
            have t := um_small32 HE.out HF.out H0.out
            exact Tup532.mk (by rw [t.1, ← hl, HG.out]) (by rw [t.2, ← hl]) HI.out HN.out
    · have eE : ((E : Int) == 0) = false := by simp; omega
      have HE0 := Lib.hid hE0
      clear hE0
      have eo : bits .or .u32 (f : Int) 8388608 = ((8388608 + f : Nat) : Int) := by
        rw [show ((8388608 : Int)) = ((8388608 : Nat) : Int) from rfl, u32_or_nat f 8388608 (by omega) (by omega), Nat.or_comm, or_disjoint _ _ 23 (by omega) hf]
      go_enter Try.func92, Try.ntmps92
      go_wp2_with fail
      refine bodyPost_ret (results_tmp5 rfl _ _ _) rfl ?_
      have t := um_norm32 HE.out HF.out HE0.out HT.out
      exact Tup532.mk t.1 (t.2.trans (by omega)) HI.out HN.out
end Go.Proofs.Ytpjanmahbimhkaa.SF
