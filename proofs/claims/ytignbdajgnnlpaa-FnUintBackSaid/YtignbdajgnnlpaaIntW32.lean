/-
  The walk through fintto32.
-/
import Derived.Test.YtignbdajgnnlpaaFromP
import Derived.Test.YtignbdajgnnlpaaPackR
import Derived.Test.YtignbdajgnnlpaaIntW
namespace Go.Proofs.Ytignbdajgnnlpaa.SF
open Go.ChangeShapes Go.WideShapes Go.ChangeAt Go.RowKit
set_option linter.unusedVariables false

/-- whether digits were cut off -/
def trb (m i : Nat) : Nat := if m % 2 ^ i = 0 then 0 else 1
theorem trb_le (m i : Nat) : trb m i ≤ 1 := by unfold trb; split <;> omega
theorem trb_ne (m i : Nat) : trb m i ≠ 0 ↔ m % 2 ^ i ≠ 0 := by unfold trb; split <;> omega
theorem trb_step (m i : Nat) : (trb m i) ||| (m / 2 ^ i % 2) = trb m (i + 1) := by
  have h := Nat.mod_pow_succ (x := m) (b := 2) (k := i)
  have hp := two_pow_pos i
  have hl := Nat.mod_lt m hp
  unfold trb
  rw [h]
  rcases Nat.mod_two_eq_zero_or_one (m / 2 ^ i) with g | g
  · rw [g, Nat.mul_zero, Nat.add_zero, Nat.or_zero]
  · rw [g, Nat.mul_one, if_neg (show ¬ (m % 2 ^ i + 2 ^ i = 0) by omega)]
    split <;> rfl
def FrL (m : Nat) (a b c : Value) : Prop := ∃ i : Nat, a = .int .u64 ((m / 2 ^ i : Nat) : Int) ∧ b = .int .i64 (23 + (i : Int)) ∧ c = .int .u32 ((trb m i : Nat) : Int) ∧ i ≤ 32 ∧ (i = 0 ∨ 2147483648 ≤ m / 2 ^ i)
theorem fr_lt {m i : Nat} (hm : m < 18446744073709551616) (hi : i ≤ 32) (h : 4294967296 ≤ m / 2 ^ i) : i < 32 := by
  rcases Nat.lt_or_ge i 32 with g | g
  · exact g
  · exfalso
    have e : i = 32 := by omega
    subst e
    have : m / 2 ^ 32 < 4294967296 := by omega
    omega
theorem fr_pst {m i : Nat} (hm : m < 18446744073709551616) (hlt : m / 2 ^ i < 4294967296) (hi : i ≤ 32) (hi2 : i = 0 ∨ 2147483648 ≤ m / 2 ^ i) :
    ∃ t A, PSt32 8388608 3000 A 1 (m / 2 ^ i) (trb m i) t (23 + (i : Int)) ∧ 64 ≤ t ∧ m * 2 ^ 149 * (1 * 2 ^ 3000) = A * 1 := by
  obtain ⟨t, ht⟩ : ∃ t : Nat, t = 23 + i + 126 + 3000 := ⟨_, rfl⟩
  have hd := rep_div m i t (by omega)
  refine ⟨t, m * 2 ^ (t - i), ⟨hd.congr (trb_ne m i).symm, by omega, fun h => ?_, by omega, by have := trb_le m i; omega⟩, by omega, ?_⟩
  · rcases hi2 with g | g
    · subst g; rw [trb_ne] at h; exact absurd (Nat.mod_one m) h
    · omega
  · have e : 149 + 3000 = t - i := by omega
    have h := mul_cat (n := m) (a := 149) (b := 3000) (c := t - i) e
    generalize 2 ^ 149 = p at *
    generalize 2 ^ 3000 = q at *
    rw [h, Nat.one_mul, Nat.mul_one]
set_option maxRecDepth 100000 in
set_option maxHeartbeats 2000000 in
theorem fintto32_ret (n : Int) (w : World) (hn : -9223372036854775808 ≤ n ∧ n ≤ 9223372036854775807) : Calls Try.prog 69 #[.int .i64 n] w (RetW (.int .u32 ((fromN32 (decide (n < 0)) n.natAbs : Nat) : Int)) w) := by
  have hm : n.natAbs < 18446744073709551616 := by omega
  obtain ⟨neg, hneg⟩ : ∃ neg, neg = decide (n < 0) := ⟨_, rfl⟩
  -- sign and size
  have e1 : IntKind.u64.wrap n = (((if neg then 18446744073709551616 - n.natAbs else n.natAbs) : Nat) : Int) := by
    rw [IntKind.wrap_u64, hneg]
    by_cases h0 : n < 0
    · rw [if_pos (decide_eq_true h0)]; omega
    · rw [if_neg (by rw [decide_eq_true_iff]; exact h0)]; omega
  have e2 : bits .and .u64 (((if neg then 18446744073709551616 - n.natAbs else n.natAbs) : Nat) : Int) 9223372036854775808 = ((sgn64 neg 0 : Nat) : Int) := by
    have hq : (if neg then 18446744073709551616 - n.natAbs else n.natAbs) < 18446744073709551616 := by
      rw [hneg]
      by_cases h0 : n < 0
      · rw [if_pos (decide_eq_true h0)]; omega
      · rw [if_neg (by rw [decide_eq_true_iff]; exact h0)]; omega
    rw [unp_and164 hq]
    unfold sb64 sgn64
    rw [hneg]
    by_cases h0 : n < 0
    · rw [if_pos (decide_eq_true h0), if_pos (decide_eq_true h0)]; omega
    · rw [if_neg (by rw [decide_eq_true_iff]; exact h0), if_neg (by rw [decide_eq_true_iff]; exact h0)]; omega
  have e3 : neg = true → IntKind.u64.wrap (-(((if neg then 18446744073709551616 - n.natAbs else n.natAbs) : Nat) : Int)) = (n.natAbs : Int) := by
    intro h
    rw [IntKind.wrap_u64, h, if_pos rfl]
    rw [h] at hneg
    have := of_decide_eq_true hneg.symm
    omega
  have e5 : neg = false → (if neg then 18446744073709551616 - n.natAbs else n.natAbs) = n.natAbs := by intro h; rw [h]; rfl
  have e4 : (((sgn64 neg 0 : Nat) : Int) != 0) = neg := sgn_ne064 neg
  have s1 : ((sgn64 neg 0 : Nat) : Int) / 4294967296 = ((sgn32 neg 0 : Nat) : Int) := by cases neg <;> decide
  have s2 : IntKind.u32.wrap ((sgn32 neg 0 : Nat) : Int) = ((sgn32 neg 0 : Nat) : Int) := by cases neg <;> decide
  rw [← hneg]
  clear hneg
  have HZ := Lib.hid (fpackZ32 neg 0 23 w)
  have HP0 : ∀ i : Nat, 0 < n.natAbs / 2 ^ i → n.natAbs / 2 ^ i < 4294967296 → i ≤ 32 → (i = 0 ∨ 2147483648 ≤ n.natAbs / 2 ^ i) → Calls Try.prog 82 #[.int .u32 ((sgn32 neg 0 : Nat) : Int), .int .u32 ((n.natAbs / 2 ^ i : Nat) : Int), .int .i64 (23 + (i : Int)), .int .u32 ((trb n.natAbs i : Nat) : Int)] w (RetW (.int .u32 ((fromN32 neg n.natAbs : Nat) : Int)) w) := by
    intro i h0 hlt hi hi2
    obtain ⟨t, A, hst, ht, heq⟩ := fr_pst hm hlt hi hi2
    exact fpackR32 neg _ _ _ A 1 3000 t _ 1 w h0 (by omega) (by omega) ht (by omega) hst (by omega) heq
  have HZ0 : n.natAbs = 0 → fromN32 neg n.natAbs = sgn32 neg 0 := by intro h; rw [h, fromN_zero32]
  have HP := Lib.hid HP0
  have HZ2 := Lib.hid HZ0
  clear HP0 HZ0
  generalize fromN32 neg n.natAbs = R at *
  generalize sgn64 neg 0 = sg at *
  generalize sgn32 neg 0 = sg32 at *
  generalize hq : (if neg then 18446744073709551616 - n.natAbs else n.natAbs) = q at *
  generalize n.natAbs = m at *
  have HM := Lib.hid hm
  clear hn hq hm
  cases neg
  all_goals
    first
      | (have e3' := e3 rfl; clear e5)
      | (have e5' := (e5 rfl).symm; subst e5'; clear e3 e5)
    go_enter Try.func69, Try.ntmps69
    go_wp2_with fail
    go_loop [4, 5, 6] (fun a b c => FrL m a b c) (fun a b c => (intOf a).toNat)
    case atStart => exact ⟨0, by simp, by simp, by simp [trb, Nat.mod_one], by omega, .inl rfl⟩
    case round =>
      obtain ⟨i, rfl, rfl, rfl, hi, hi2⟩ := hrel
      have hb : m / 2 ^ i < 18446744073709551616 := Nat.lt_of_le_of_lt (Nat.div_le_self _ _) HM.out
      have htr := trb_le m i
      have HI := Lib.hid hi
      have HI2 := Lib.hid hi2
      by_cases hge : 4294967296 ≤ m / 2 ^ i
      · have hi3 := fr_lt HM.out hi hge
        have HGE := Lib.hid hge
        have e2 : m / 2 ^ (i + 1) = m / 2 ^ i / 2 := by rw [Nat.pow_succ, Nat.div_div_eq_div_mul]
        have HE := Lib.hid e2
        have HT := Lib.hid (trb_step m i)
        have d1 : decide (4294967296 ≤ ((m / 2 ^ i : Nat) : Int)) = true := decide_eq_true (by omega)
        clear hi hi2 hge e2
        generalize m / 2 ^ i = q at *
        generalize trb m i = tr at *
        have c1 : IntKind.u32.wrap (q : Int) = ((q % 4294967296 : Nat) : Int) := by rw [IntKind.wrap_u32']; omega
        have c2 : bits .and .u32 ((q % 4294967296 : Nat) : Int) 1 = ((q % 2 : Nat) : Int) := by
          have hq := and_one .u32 (q % 4294967296) (.inr rfl) (Nat.mod_lt q (by decide))
          rw [hq]; omega
        have c3 : bits .or .u32 (tr : Int) ((q % 2 : Nat) : Int) = ((tr ||| q % 2 : Nat) : Int) := u32_or_nat _ _ (by omega) (by omega)
        have c4 : IntKind.i64.wrap (23 + (i : Int) + 1) = 23 + (i : Int) + 1 := IntWalk.i64_in _ (by omega)
        generalize q % 4294967296 = q32 at *
        generalize q % 2 = q2 at *
        go_wp2_with fail
        go_round
        case rel => exact ⟨i + 1, by rw [HE.out]; go_num, by go_num, by rw [← HT.out], by omega, .inr (by rw [HE.out]; have := HGE.out; omega)⟩
        case measure => simp [intOf]; have := HGE.out; omega
      · have d1 : decide (4294967296 ≤ ((m / 2 ^ i : Nat) : Int)) = false := decide_eq_false (by omega)
        have c1 : IntKind.u32.wrap ((m / 2 ^ i : Nat) : Int) = ((m / 2 ^ i : Nat) : Int) := wrap_u32_nat (by omega)
        rcases Nat.eq_zero_or_pos (m / 2 ^ i) with h0 | h0
        · have hi0 : i = 0 := by omega
          subst hi0
          have hm0 : m = 0 := by rw [Nat.pow_zero, Nat.div_one] at h0; exact h0
          have hR := HZ2.out hm0
          have htz : trb m 0 = 0 := by unfold trb; rw [Nat.pow_zero, Nat.mod_one]; rfl
          rw [h0] at d1 c1 ⊢
          rw [htz]
          have HR := Lib.hid hR
          clear hi hi2 hge hR hm0 htz h0
          go_wp2_with fail
          refine (HZ.out).mono ?_
          rintro e w' ⟨rfl, rfl⟩
          go_wp2_with fail
          go_ret
          exact ⟨by rw [HR.out]; rfl, rfl⟩
        · have HQ := Lib.hid (HP.out i h0 (by omega) hi hi2)
          generalize m / 2 ^ i = q at *
          generalize trb m i = tr at *
          clear hi hi2 hge h0
          go_wp2_with fail
          refine (HQ.out).mono ?_
          rintro e w' ⟨rfl, rfl⟩
          go_wp2_with fail
          go_ret
          exact ⟨rfl, rfl⟩
end Go.Proofs.Ytignbdajgnnlpaa.SF
