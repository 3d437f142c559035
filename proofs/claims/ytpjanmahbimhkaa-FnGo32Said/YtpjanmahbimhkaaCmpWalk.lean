/-
  The walk through fcmp64.
-/
import Derived.Test.YtpjanmahbimhkaaUnpWalk
import Derived.Test.YtpjanmahbimhkaaFrame
import Derived.Deep.DeepCutAuto
namespace Go.Proofs.Ytpjanmahbimhkaa.SF
open Go.ChangeShapes Go.WideShapes Go.ChangeAt Go.RowKit
set_option linter.unusedVariables false

/-- how two floats stand to each other (neither is a NaN) -/
def cmpF64 (x y : Nat) : Int :=
  if mag64 x = 0 ∧ mag64 y = 0 then 0 else if sb64 y < sb64 x then -1 else if sb64 x < sb64 y then 1 else if x = y then 0 else if (x < y ↔ sb64 x = 0) then -1 else 1

theorem um_zero_iff {x : Nat} (hn : isNaN64 x = false) : (isInf64 x = false ∧ um64 x = 0) ↔ mag64 x = 0 := by
  have hn' : ¬ 9218868437227405312 < mag64 x := of_decide_eq_false hn
  constructor
  · rintro ⟨hi, hm⟩
    have hi' : ¬ mag64 x = 9218868437227405312 := of_decide_eq_false hi
    rcases Nat.eq_zero_or_pos (mag64 x) with h0 | h0
    · exact h0
    · have := (um_fin (F := 52) (T := 2047) (eb := 1023) h0 (by omega)).1
      have e : um 52 2047 (mag64 x) = 0 := hm
      rw [e] at this
      omega
  · intro h
    refine ⟨decide_eq_false (by omega), ?_⟩
    show um 52 2047 (mag64 x) = 0
    rw [h]; exact um_zero _ _

theorem cmp_zero {x y : Nat} (h : mag64 x = 0 ∧ mag64 y = 0) : cmpF64 x y = 0 := if_pos h
theorem cmp_gt {x y : Nat} (h : ¬ (mag64 x = 0 ∧ mag64 y = 0)) (h1 : sb64 y < sb64 x) : cmpF64 x y = -1 := by unfold cmpF64; rw [if_neg h, if_pos h1]
theorem cmp_lt {x y : Nat} (h : ¬ (mag64 x = 0 ∧ mag64 y = 0)) (h1 : sb64 x < sb64 y) : cmpF64 x y = 1 := by unfold cmpF64; rw [if_neg h, if_neg (by omega), if_pos h1]
theorem cmp_eq {x y : Nat} (h : ¬ (mag64 x = 0 ∧ mag64 y = 0)) (h1 : sb64 x = sb64 y) (h2 : x = y) : cmpF64 x y = 0 := by unfold cmpF64; rw [if_neg h, if_neg (by omega), if_neg (by omega), if_pos h2]
theorem cmp_m {x y : Nat} (h : ¬ (mag64 x = 0 ∧ mag64 y = 0)) (h1 : sb64 x = sb64 y) (h2 : x ≠ y) (h3 : x < y ↔ sb64 x = 0) : cmpF64 x y = -1 := by unfold cmpF64; rw [if_neg h, if_neg (by omega), if_neg (by omega), if_neg h2, if_pos h3]
theorem cmp_p {x y : Nat} (h : ¬ (mag64 x = 0 ∧ mag64 y = 0)) (h1 : sb64 x = sb64 y) (h2 : x ≠ y) (h3 : ¬ (x < y ↔ sb64 x = 0)) : cmpF64 x y = 1 := by unfold cmpF64; rw [if_neg h, if_neg (by omega), if_neg (by omega), if_neg h2, if_neg h3]

def CmpPost (x y : Nat) (w : World) : Ending → World → Prop := fun e w' => w = w' ∧
  ((isNaN64 x = true ∨ isNaN64 y = true) ∧ e = .returned (.tuple #[.int .i32 0, .bool true]) ∨ isNaN64 x = false ∧ isNaN64 y = false ∧ e = .returned (.tuple #[.int .i32 (cmpF64 x y), .bool false]))

theorem ret_cmp {c d : Int} (h : d = c) : Ending.returned (.tuple #[.int .i32 c, .bool false]) = .returned (.tuple #[.int .i32 d, .bool false]) := by rw [h]

set_option maxRecDepth 100000 in
set_option maxHeartbeats 2000000 in
theorem fcmp64_any (x y : Nat) (w : World) (hx : x < 18446744073709551616) (hy : y < 18446744073709551616) :
    Calls Try.prog 105 #[.int .u64 (x : Int), .int .u64 (y : Int)] w (CmpPost x y w) := by
  have H1 := funpack64_any x w hx
  have H2 := funpack64_any y w hy
  unfold Tup564 at H1 H2
  by_cases nx : isNaN64 x = true
  · rw [nx] at H1
    have G1 := Lib.hid H1
    have G2 := Lib.hid H2
    have NX := Lib.hid nx
    clear H1 H2 hx hy nx
    go_enter Try.func105, Try.ntmps105
    go_wp2_with fail
    refine (G1.out).mono ?_
    rintro e w' ⟨rfl, rfl⟩
    go_wp2_with fail
    refine (G2.out).mono ?_
    rintro e w' ⟨rfl, rfl⟩
    go_wp2_with fail
    go_ret2
    exact ⟨rfl, .inl ⟨.inl NX.out, rfl⟩⟩
  have nx : isNaN64 x = false := by simpa using nx
  by_cases ny : isNaN64 y = true
  · rw [nx] at H1
    rw [ny] at H2
    have G1 := Lib.hid H1
    have G2 := Lib.hid H2
    have NY := Lib.hid ny
    clear H1 H2 hx hy nx ny
    go_enter Try.func105, Try.ntmps105
    go_wp2_with fail
    refine (G1.out).mono ?_
    rintro e w' ⟨rfl, rfl⟩
    go_wp2_with fail
    refine (G2.out).mono ?_
    rintro e w' ⟨rfl, rfl⟩
    go_wp2_with fail
    go_ret2
    exact ⟨rfl, .inl ⟨.inr NY.out, rfl⟩⟩
  have ny : isNaN64 y = false := by simpa using ny
  have zx := um_zero_iff nx
  have zy := um_zero_iff ny
  have NX := Lib.hid nx
  have NY := Lib.hid ny
  rw [nx] at H1
  rw [ny] at H2
  obtain ⟨Z, hZ⟩ : ∃ Z : Bool, Z = decide (mag64 x = 0 ∧ mag64 y = 0) := ⟨_, rfl⟩
  have HZ := Lib.hid hZ
  have sgx := sb_cases64 hx
  have sgy := sb_cases64 hy
  have CZ := Lib.hid (@cmp_zero x y)
  have CG := Lib.hid (@cmp_gt x y)
  have CL := Lib.hid (@cmp_lt x y)
  have CE := Lib.hid (@cmp_eq x y)
  have CM := Lib.hid (@cmp_m x y)
  have CP := Lib.hid (@cmp_p x y)
  generalize isInf64 x = ix at *
  generalize isInf64 y = iy at *
  generalize um64 x = mx at *
  generalize um64 y = my at *
  generalize ue64 x = ex at *
  generalize ue64 y = ey at *
  generalize sb64 x = sx at *
  generalize sb64 y = sy at *
  have G1 := Lib.hid H1
  have G2 := Lib.hid H2
  have ZX := Lib.hid zx
  have ZY := Lib.hid zy
  clear H1 H2 hx hy nx ny zx zy hZ
  go_enter Try.func105, Try.ntmps105
  go_wp2_with fail
  refine (G1.out).mono ?_
  rintro e w' ⟨rfl, rfl⟩
  go_wp2_with fail
  refine (G2.out).mono ?_
  rintro e w' ⟨rfl, rfl⟩
  go_upto_region 6 with (fail)
  go_cut [35] (fun b wx => b = .bool Z ∧ wx = w)
  case first =>
    cases ix
    · cases iy
      · by_cases hmx : mx = 0
        · have e1 : ((mx : Int) == 0) = true := by simp [hmx]
          by_cases hmy : my = 0
          · have e2 : ((my : Int) == 0) = true := by simp [hmy]
            have eZ : Z = true := by rw [HZ.out]; exact decide_eq_true ⟨ZX.out.mp ⟨rfl, hmx⟩, ZY.out.mp ⟨rfl, hmy⟩⟩
            subst eZ
            clear hmx hmy
            go_wp2_with fail
            go_meet
            exact ⟨rfl, rfl⟩
          · have e2 : ((my : Int) == 0) = false := beq_eq_false_iff_ne.mpr (by omega)
            have eZ : Z = false := by rw [HZ.out]; exact decide_eq_false fun h => hmy (ZY.out.mpr h.2).2
            subst eZ
            clear hmx hmy
            go_wp2_with fail
            go_meet
            exact ⟨rfl, rfl⟩
        · have e1 : ((mx : Int) == 0) = false := beq_eq_false_iff_ne.mpr (by omega)
          have eZ : Z = false := by rw [HZ.out]; exact decide_eq_false fun h => hmx (ZX.out.mpr h.1).2
          subst eZ
          clear hmx
          go_wp2_with fail
          go_meet
          exact ⟨rfl, rfl⟩
      · have eZ : Z = false := by rw [HZ.out]; exact decide_eq_false fun h => by have := (ZY.out.mpr h.2).1; cases this
        subst eZ
        go_wp2_with fail
        go_meet
        exact ⟨rfl, rfl⟩
    · have eZ : Z = false := by rw [HZ.out]; exact decide_eq_false fun h => by have := (ZX.out.mpr h.1).1; cases this
      subst eZ
      go_wp2_with fail
      go_meet
      exact ⟨rfl, rfl⟩
  case rest =>
    obtain ⟨rfl, rfl⟩ := hcut
    cases Z
    · have hz : ¬ (mag64 x = 0 ∧ mag64 y = 0) := of_decide_eq_false HZ.out.symm
      have HNZ := Lib.hid hz
      clear hz
      rcases Nat.lt_trichotomy sx sy with h1 | h1 | h1
      · have d1 : decide ((sy : Int) < (sx : Int)) = false := decide_eq_false (by omega)
        have d2 : decide ((sx : Int) < (sy : Int)) = true := decide_eq_true (by omega)
        have R := Lib.hid (CL.out HNZ.out h1)
        go_wp2_with fail
        go_ret2
        exact ⟨rfl, .inr ⟨NX.out, NY.out, ret_cmp R.out⟩⟩
      · subst h1
        by_cases hs : sx = 0
        · have e1 : ((sx : Int) == 0) = true := by simp [hs]
          have e2 : ((sx : Int) != 0) = false := by simp [hs]
          rcases Nat.lt_trichotomy x y with h2 | h2 | h2
          · have R := Lib.hid (CM.out HNZ.out rfl (by omega) ⟨fun _ => hs, fun _ => h2⟩)
            clear hs
            go_wp2_with fail
            go_ret2
            exact ⟨rfl, .inr ⟨NX.out, NY.out, ret_cmp R.out⟩⟩
          · have R := Lib.hid (CE.out HNZ.out rfl h2)
            have q1 : ¬ x < y := by omega
            have q2 : ¬ y < x := by omega
            clear hs h2
            go_wp2_with fail
            go_ret2
            exact ⟨rfl, .inr ⟨NX.out, NY.out, ret_cmp R.out⟩⟩
          · have R := Lib.hid (CP.out HNZ.out rfl (by omega) (fun h => by have := h.mpr hs; omega))
            clear hs
            go_wp2_with fail
            go_ret2
            exact ⟨rfl, .inr ⟨NX.out, NY.out, ret_cmp R.out⟩⟩
        · have e1 : ((sx : Int) == 0) = false := beq_eq_false_iff_ne.mpr (by omega)
          have e2 : ((sx : Int) != 0) = true := by simp [hs]
          rcases Nat.lt_trichotomy x y with h2 | h2 | h2
          · have R := Lib.hid (CP.out HNZ.out rfl (by omega) (fun h => hs (h.mp h2)))
            clear hs
            go_wp2_with fail
            go_ret2
            exact ⟨rfl, .inr ⟨NX.out, NY.out, ret_cmp R.out⟩⟩
          · have R := Lib.hid (CE.out HNZ.out rfl h2)
            have q1 : ¬ x < y := by omega
            have q2 : ¬ y < x := by omega
            clear hs h2
            go_wp2_with fail
            go_ret2
            exact ⟨rfl, .inr ⟨NX.out, NY.out, ret_cmp R.out⟩⟩
          · have R := Lib.hid (CM.out HNZ.out rfl (by omega) ⟨fun h => by omega, fun h => absurd h hs⟩)
            clear hs
            go_wp2_with fail
            go_ret2
            exact ⟨rfl, .inr ⟨NX.out, NY.out, ret_cmp R.out⟩⟩
      · have R := Lib.hid (CG.out HNZ.out h1)
        go_wp2_with fail
        go_ret2
        exact ⟨rfl, .inr ⟨NX.out, NY.out, ret_cmp R.out⟩⟩
    · have R := Lib.hid (CZ.out (of_decide_eq_true HZ.out.symm))
      go_wp2_with fail
      go_ret2
      exact ⟨rfl, .inr ⟨NX.out, NY.out, ret_cmp R.out⟩⟩
end Go.Proofs.Ytpjanmahbimhkaa.SF
