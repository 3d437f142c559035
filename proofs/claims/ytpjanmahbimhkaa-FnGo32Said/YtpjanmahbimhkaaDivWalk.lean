/-
  The walk through divlu: a number of 128 bits by one of 64.
-/
import Derived.Test.YtpjanmahbimhkaaDivPlain
import Derived.ScopeJumps
namespace Go.Proofs.Ytpjanmahbimhkaa.SF
open Go.ChangeShapes Go.WideShapes Go.ChangeAt Go.RowKit
set_option linter.unusedVariables false

/-- A scope in which the run jumps back to several labels. -/
def jumps (J : Nat → Act → World → Prop) (Q : Exit → Act → World → Prop) : Exit → Act → World → Prop
  | .goto l, a, w => J l a w
  | e, a, w => Q e a w

theorem wp_scope_labels {P : Program} {a : Act} {w : World} {Q : Exit → Act → World → Prop} {c : Code} (J : Nat → Act → World → Prop) (μ : Nat → Act → World → Nat)
    (first : c.wp P (jumps J Q) a w)
    (pass : ∀ l a w, J l a w → ∃ rest, findLabel c l = some rest ∧ rest.wp P (jumps (fun l' a' w' => J l' a' w' ∧ μ l' a' w' < μ l a w) Q) a w) : (Code.scope c).wp P Q a w := by
  intro b k cs
  have key : ∀ n l a w, μ l a w = n → J l a w → ∀ rest, findLabel c l = some rest → ∃ e a' w', Q e a' w' ∧ Arrives P (lone (b.at a (.code rest :: .inScope c :: k)) cs w) b k cs e a' w' := by
    intro n
    induction n using Nat.strongRecOn with
    | _ n ih =>
      intro l a w hn hJ rest hf
      obtain ⟨rest', hf', hp⟩ := pass l a w hJ
      obtain rfl : rest' = rest := by rw [hf] at hf'; injection hf' with h; exact h.symm
      obtain ⟨e, a₁, w₁, hq, harr⟩ := hp b (.inScope c :: k) cs
      cases e with
      | normal => exact ⟨.normal, a₁, w₁, hq, Steps.trans harr (.one step_inScope)⟩
      | exit id => exact ⟨.exit id, a₁, w₁, hq, fun k' hk => harr k' (by simp [exitTo, hk])⟩
      | goto l' =>
        obtain ⟨hJ', hlt⟩ := hq
        obtain ⟨rest₂, hf₂, _⟩ := pass l' a₁ w₁ hJ'
        have hg : gotoIn l' (.inScope c :: k) = some (.code rest₂ :: .inScope c :: k) := by simp [gotoIn, hf₂]
        obtain ⟨e₂, a₂, w₂, hq₂, harr₂⟩ := ih _ (by omega) l' a₁ w₁ rfl hJ' rest₂ hf₂
        exact ⟨e₂, a₂, w₂, hq₂, .of_steps (harr _ hg) harr₂⟩
      | ret => exact ⟨_, a₁, w₁, hq, harr⟩
      | panic ch => exact ⟨_, a₁, w₁, hq, harr⟩
      | outgrown => exact ⟨_, a₁, w₁, hq, harr⟩
  obtain ⟨e, a₁, w₁, hq, harr⟩ := first b (.inScope c :: k) cs
  cases e with
  | normal => exact ⟨.normal, a₁, w₁, hq, .head step_scope (Steps.trans harr (.one step_inScope))⟩
  | exit id => exact ⟨.exit id, a₁, w₁, hq, fun k' hk => .head step_scope (harr k' (by simp [exitTo, hk]))⟩
  | goto l' =>
    obtain ⟨rest₂, hf₂, _⟩ := pass l' a₁ w₁ hq
    have hg : gotoIn l' (.inScope c :: k) = some (.code rest₂ :: .inScope c :: k) := by simp [gotoIn, hf₂]
    obtain ⟨e₂, a₂, w₂, hq₂, harr₂⟩ := key _ l' a₁ w₁ rfl hq rest₂ hf₂
    exact ⟨e₂, a₂, w₂, hq₂, .of_steps (.head step_scope (harr _ hg)) harr₂⟩
  | ret => exact ⟨_, a₁, w₁, hq, .of_steps (.one step_scope) harr⟩
  | panic ch => exact ⟨_, a₁, w₁, hq, .of_steps (.one step_scope) harr⟩
  | outgrown => exact ⟨_, a₁, w₁, hq, .of_steps (.one step_scope) harr⟩

def NL (v : Nat) (a b : Value) : Prop := ∃ s : Nat, a = .int .u64 ((v * 2 ^ s : Nat) : Int) ∧ b = .int .u64 (s : Int) ∧ v * 2 ^ s < 18446744073709551616 ∧ s ≤ 63
def msNL (a : Value) : Nat := 9223372036854775808 - (intOf a).toNat

/-- What is known of the numbers of the division, once for all. -/
structure DC (N v s g a un10 v1 v0 d1 d0 : Nat) : Prop where
  vpos : 0 < v
  hg : v * 2 ^ s = g
  gparts : g = v1 * 4294967296 + v0
  hU : N * 2 ^ s = a * 18446744073709551616 + un10
  hd : un10 = d1 * 4294967296 + d0
  h1 : DV a d1 v1 v0
  d0lt : d0 < 4294967296
  glt : g < 18446744073709551616

structure DC2 (g a v1 v0 d1 d0 Q1 b2 : Nat) : Prop where
  hQ1 : Q1 = (a * 4294967296 + d1) / g
  hb2 : b2 = (a * 4294967296 + d1) % g
  h2 : DV b2 d0 v1 v0
  qlt : Q1 < 4294967296

def DivPost (N v : Nat) (w : World) : Ending → World → Prop := fun e w' => e = .returned (.tuple #[.int .u64 ((N / v : Nat) : Int), .int .u64 ((N % v : Nat) : Int)]) ∧ w = w'

theorem DC.second {N v s g a un10 v1 v0 d1 d0 Q1 : Nat} (h : DC N v s g a un10 v1 v0 d1 d0) (hQ : Q1 = (a * 4294967296 + d1) / (v1 * 4294967296 + v0)) :
    ∃ b2, DC2 g a v1 v0 d1 d0 Q1 b2 ∧ IntKind.u64.wrap (IntKind.u64.wrap (IntKind.u64.wrap ((a : Int) * 4294967296) + (d1 : Int)) - IntKind.u64.wrap ((Q1 : Int) * (g : Int))) = (b2 : Int) := by
  have hgp := h.gparts
  have hgpos : 0 < g := by rw [hgp]; have := h.h1.v1lo; omega
  have hglt := h.glt
  rw [← hgp] at hQ
  have hm := Nat.mod_lt (a * 4294967296 + d1) hgpos
  have hdm := Nat.div_add_mod (a * 4294967296 + d1) g
  rw [← hQ] at hdm
  refine ⟨(a * 4294967296 + d1) % g, ⟨hQ, rfl, ⟨h.h1.v1lo, h.h1.v1hi, h.h1.v0hi, by rw [← hgp]; exact hm, h.d0lt⟩, ?_⟩, sub_wrap hdm (by omega)⟩
  rw [hQ, Nat.div_lt_iff_lt_mul hgpos]
  have := h.h1.alt
  have := h.h1.dlt
  rw [← hgp] at *
  omega

theorem DC.final {N v s g a un10 v1 v0 d1 d0 Q1 b2 Q0 : Nat} {w : World} (h : DC N v s g a un10 v1 v0 d1 d0) (h2 : DC2 g a v1 v0 d1 d0 Q1 b2) (hQ : Q0 = (b2 * 4294967296 + d0) / (v1 * 4294967296 + v0)) {X Y : Int}
    (hX : X = IntKind.u64.wrap (IntKind.u64.wrap ((Q1 : Int) * 4294967296) + (Q0 : Int)) ∨ X = IntKind.u64.wrap ((Q1 : Int) * 4294967296 + (Q0 : Int)) ∨ X = (Q1 : Int) * 4294967296 + (Q0 : Int))
    (hY : Y = IntKind.u64.wrap (IntKind.u64.wrap (IntKind.u64.wrap ((b2 : Int) * 4294967296) + (d0 : Int)) - IntKind.u64.wrap ((Q0 : Int) * (g : Int))) / 2 ^ s) :
    DivPost N v w (.returned (.tuple #[.int .u64 X, .int .u64 Y])) w := by
  have hgp := h.gparts
  have hgpos : 0 < g := by rw [hgp]; have := h.h1.v1lo; omega
  have hglt := h.glt
  rw [← hgp] at hQ
  have hm := Nat.mod_lt (b2 * 4294967296 + d0) hgpos
  have hdm := Nat.div_add_mod (b2 * 4294967296 + d0) g
  rw [← hQ] at hdm
  have hw := sub_wrap hdm (by omega)
  obtain ⟨t1, t2⟩ := two_digits h.hg h.vpos h.hU h.hd h2.hQ1 h2.hb2 hQ
  have hq0 : Q0 < 4294967296 := by
    rw [hQ, Nat.div_lt_iff_lt_mul hgpos]
    have := h2.h2.alt
    have := h2.h2.dlt
    rw [← hgp] at *
    omega
  have hq1 := h2.qlt
  have eX : X = ((N / v : Nat) : Int) := by
    rw [← t1]
    rcases hX with rfl | rfl | rfl
    · rw [IntKind.wrap_u64, IntKind.wrap_u64]; omega
    · rw [IntKind.wrap_u64]; omega
    · omega
  have eY : Y = ((N % v : Nat) : Int) := by
    rw [hY, hw, ← t2]; simp
  rw [eX, eY]
  exact ⟨rfl, rfl⟩

def mkU (L : List Value) (i : Nat) : Value := L.getD i undef

def DJ (N v : Nat) (w0 : World) : Nat → Act → World → Prop
  | 0, a', w' => w0 = w' ∧ ∃ (s g a un10 v1 v0 d1 d0 u1 u0 q r : Nat) (L : List Value), a' = { tmps := #[.int .u64 (u1 : Int), .int .u64 (u0 : Int), .int .u64 (g : Int), undef, undef, undef, .int .u64 0, .int .u64 0, .int .u64 (s : Int), .int .u64 (v1 : Int), .int .u64 (v0 : Int), .int .u64 (a : Int), .int .u64 (un10 : Int), .int .u64 (d1 : Int), .int .u64 (d0 : Int), .int .u64 (q : Int), .int .u64 (r : Int), mkU L 0, mkU L 1, mkU L 2, mkU L 3, mkU L 4, mkU L 5, mkU L 6, mkU L 7, mkU L 8, mkU L 9, mkU L 10, mkU L 11, mkU L 12, mkU L 13, mkU L 14, mkU L 15, mkU L 16, mkU L 17, mkU L 18, mkU L 19, mkU L 20, mkU L 21, mkU L 22, mkU L 23, mkU L 24, mkU L 25, mkU L 26, mkU L 27, mkU L 28, mkU L 29, mkU L 30, mkU L 31, mkU L 32, mkU L 33, mkU L 34, mkU L 35, mkU L 36, mkU L 37, mkU L 38, mkU L 39, mkU L 40, mkU L 41, mkU L 42, mkU L 43, mkU L 44, mkU L 45, mkU L 46, mkU L 47, mkU L 48, mkU L 49, mkU L 50, mkU L 51, mkU L 52, mkU L 53, mkU L 54, mkU L 55, mkU L 56, mkU L 57, mkU L 58, mkU L 59, mkU L 60, mkU L 61, mkU L 62, mkU L 63, mkU L 64, mkU L 65, mkU L 66, mkU L 67, mkU L 68, mkU L 69, mkU L 70, mkU L 71, mkU L 72, mkU L 73, mkU L 74, mkU L 75, mkU L 76, mkU L 77, mkU L 78, mkU L 79, mkU L 80, mkU L 81, mkU L 82, mkU L 83, mkU L 84, mkU L 85, mkU L 86, mkU L 87, mkU L 88, mkU L 89, mkU L 90, mkU L 91, mkU L 92, mkU L 93, mkU L 94, mkU L 95, mkU L 96, mkU L 97, mkU L 98, mkU L 99, mkU L 100, mkU L 101, mkU L 102, mkU L 103, mkU L 104, mkU L 105, mkU L 106], defers := [] } ∧ DC N v s g a un10 v1 v0 d1 d0 ∧ DI a d1 v1 v0 q r ∧ s ≤ 63
  | 1, a', w' => w0 = w' ∧ ∃ (s g a un10 v1 v0 d1 d0 u1 u0 Q1 b2 q r : Nat) (L : List Value), a' = { tmps := #[.int .u64 (u1 : Int), .int .u64 (u0 : Int), .int .u64 (g : Int), undef, undef, undef, .int .u64 0, .int .u64 0, .int .u64 (s : Int), .int .u64 (v1 : Int), .int .u64 (v0 : Int), .int .u64 (a : Int), .int .u64 (un10 : Int), .int .u64 (d1 : Int), .int .u64 (d0 : Int), .int .u64 (Q1 : Int), .int .u64 (r : Int), .int .u64 (b2 : Int), .int .u64 (q : Int), mkU L 0, mkU L 1, mkU L 2, mkU L 3, mkU L 4, mkU L 5, mkU L 6, mkU L 7, mkU L 8, mkU L 9, mkU L 10, mkU L 11, mkU L 12, mkU L 13, mkU L 14, mkU L 15, mkU L 16, mkU L 17, mkU L 18, mkU L 19, mkU L 20, mkU L 21, mkU L 22, mkU L 23, mkU L 24, mkU L 25, mkU L 26, mkU L 27, mkU L 28, mkU L 29, mkU L 30, mkU L 31, mkU L 32, mkU L 33, mkU L 34, mkU L 35, mkU L 36, mkU L 37, mkU L 38, mkU L 39, mkU L 40, mkU L 41, mkU L 42, mkU L 43, mkU L 44, mkU L 45, mkU L 46, mkU L 47, mkU L 48, mkU L 49, mkU L 50, mkU L 51, mkU L 52, mkU L 53, mkU L 54, mkU L 55, mkU L 56, mkU L 57, mkU L 58, mkU L 59, mkU L 60, mkU L 61, mkU L 62, mkU L 63, mkU L 64, mkU L 65, mkU L 66, mkU L 67, mkU L 68, mkU L 69, mkU L 70, mkU L 71, mkU L 72, mkU L 73, mkU L 74, mkU L 75, mkU L 76, mkU L 77, mkU L 78, mkU L 79, mkU L 80, mkU L 81, mkU L 82, mkU L 83, mkU L 84, mkU L 85, mkU L 86, mkU L 87, mkU L 88, mkU L 89, mkU L 90, mkU L 91, mkU L 92, mkU L 93, mkU L 94, mkU L 95, mkU L 96, mkU L 97, mkU L 98, mkU L 99, mkU L 100, mkU L 101, mkU L 102, mkU L 103, mkU L 104], defers := [] } ∧ DC N v s g a un10 v1 v0 d1 d0 ∧ DC2 g a v1 v0 d1 d0 Q1 b2 ∧ DI b2 d0 v1 v0 q r ∧ s ≤ 63
  | _, _, _ => False

def msDJ (l : Nat) (a : Act) (_ : World) : Nat := if l = 0 then (intOf (a.tmps.getD 15 undef)).toNat + 4294967299 else (intOf (a.tmps.getD 18 undef)).toNat

theorem bit63 {g : Nat} (hg : g < 18446744073709551616) : (bits .and .u64 (g : Int) 9223372036854775808 = 0) ↔ g < 9223372036854775808 := by
  rw [unp_and164 hg]
  unfold sb64
  omega

theorem DC.mk' {u1 u0 v s g a un10 : Nat} (h1 : u1 < v) (hg : v * 2 ^ s = g) (hgl : g < 18446744073709551616) (hge : 9223372036854775808 ≤ g)
    (hU : (u1 * 18446744073709551616 + u0) * 2 ^ s = a * 18446744073709551616 + un10) (hun : un10 < 18446744073709551616) (ha : a < g) :
    DC (u1 * 18446744073709551616 + u0) v s g a un10 (g / 4294967296) (g % 4294967296) (un10 / 4294967296) (un10 % 4294967296) :=
  ⟨by omega, hg, by omega, hU, by omega, ⟨by omega, by omega, by omega, by omega, by omega⟩, by omega, hgl⟩

theorem quo_rule {a v1 : Nat} (h : v1 < 4294967296) (h0 : 0 < v1) (ha : a < 18446744073709551616) : IntKind.u64.wrap ((a : Int) / (v1 : Int)) = ((a / v1 : Nat) : Int) ∧ IntKind.u64.wrap ((a : Int) - IntKind.u64.wrap (((a / v1 : Nat) : Int) * (v1 : Int))) = ((a % v1 : Nat) : Int) := by
  have hd := Nat.div_add_mod a v1
  have hle : a / v1 ≤ a := Nat.div_le_self _ _
  have e1 : (a : Int) / (v1 : Int) = ((a / v1 : Nat) : Int) := by simp
  constructor
  · rw [e1, wrap_u64_nat (by omega)]
  · rw [← Int.natCast_mul, Nat.mul_comm]
    generalize v1 * (a / v1) = X at *
    rw [IntKind.wrap_u64, IntKind.wrap_u64]
    omega

set_option maxRecDepth 100000 in
set_option maxHeartbeats 4000000 in
theorem divlu_any (u1 u0 v N : Nat) (w : World) (hN : Hid (N = u1 * 18446744073709551616 + u0)) (h1 : (u1 : Int) < (v : Int)) (h0 : Hid (u0 < 18446744073709551616)) (hv : Hid (v < 18446744073709551616)) :
    Calls Try.prog 107 #[.int .u64 (u1 : Int), .int .u64 (u0 : Int), .int .u64 (v : Int)] w (DivPost N v w) := by
  have hd : decide ((v : Int) ≤ (u1 : Int)) = false := decide_eq_false (by omega)
  go_enter Try.func107, Try.ntmps107
  go_wp2_with fail
  refine wp_scope_labels (DJ N v w) msDJ ?first ?pass
  case first =>
    go_wp2_with fail
    go_loop [2, 8] (fun a b => NL v a b) (fun a b => msNL a)
    case atStart => exact ⟨0, by simp, rfl, by simpa using hv.out, by omega⟩
    case round =>
      obtain ⟨s, rfl, rfl, hs, hs63⟩ := hrel
      generalize hg : v * 2 ^ s = g at hs
      have HS := Lib.hid hs
      have HG := Lib.hid hg
      have hz := bit63 hs
      clear hg hs
      by_cases hlt : g < 9223372036854775808
      · have hz0 := hz.mpr hlt
        have hs62 : s + 1 ≤ 63 := by
          have h3 : 2 ^ s < 2 ^ 63 := by
            refine Nat.lt_of_le_of_lt ?_ hlt
            rw [← HG.out]
            exact Nat.le_mul_of_pos_left _ (by omega)
          have := (Nat.pow_lt_pow_iff_right (a := 2) (by omega)).mp h3
          omega
        have hgp : 0 < g := by rw [← HG.out]; exact Nat.mul_pos (by omega) (two_pow_pos s)
        have HZ := Lib.hid hlt
        have hgi : (g : Int) < 9223372036854775808 := by omega
        clear hz hlt
        go_wp2_with fail
        go_round
        case rel =>
          have := HZ.out
          exact ⟨s + 1, by rw [pow_succ2, Nat.mul_left_comm, HG.out]; go_num, by go_num, by rw [pow_succ2, Nat.mul_left_comm, HG.out]; omega, hs62⟩
        case measure => have := HZ.out; simp [msNL, intOf]; omega
      · have hz' : (bits .and .u64 (g : Int) 9223372036854775808 == 0) = false := by
          simp only [beq_eq_false_iff_ne, ne_eq]; exact fun h => hlt (hz.mp h)
        obtain ⟨a, un10, hw1, hw2, hU, hun, hag⟩ := shl_parts (s := s) (show u1 < v by omega) h0.out HG.out HS.out hs63
        have HC0 := DC.mk' (u0 := u0) (show u1 < v by omega) HG.out HS.out (by omega) hU hun hag
        rw [← hN.out] at HC0
        have hw3 : (g : Int) / 4294967296 = ((g / 4294967296 : Nat) : Int) := by omega
        have hw4 := and_lo32 HS.out
        have hw5 : (un10 : Int) / 4294967296 = ((un10 / 4294967296 : Nat) : Int) := by omega
        have hw6 := and_lo32 hun
        generalize g / 4294967296 = v1 at hw3 HC0
        generalize g % 4294967296 = v0 at hw4 HC0
        generalize un10 / 4294967296 = d1 at hw5 HC0
        generalize un10 % 4294967296 = d0 at hw6 HC0
        have HC := Lib.hid HC0
        have hv1lo := HC0.h1.v1lo
        have hv1hi := HC0.h1.v1hi
        have hv0hi := HC0.h1.v0hi
        have hd1lt := HC0.h1.dlt
        have hd0lt := HC0.d0lt
        obtain ⟨hw7, hw8⟩ := quo_rule (a := a) hv1hi (by omega) (by have := HS.out; omega)
        have HI0 := DI.start HC0.h1
        generalize a / v1 = q at hw7 hw8 HI0
        generalize a % v1 = r at hw8 HI0
        have hrlt := HI0.rlt
        have HI := Lib.hid HI0
        clear hz hlt hU hun hag HC0 HI0
        go_wp2_with fail
        go_step3
        clear hw1 hw2 hw3 hw4 hw5 hw6 hw7 hw8
        by_cases hq : (4294967296 : Int) ≤ (q : Int)
        · have hqt : decide ((4294967296 : Int) ≤ (q : Int)) = true := decide_eq_true hq
          obtain ⟨q', hq'⟩ := HC.out.h1.pos HI.out (.inl (by omega))
          have hqm : (q : Int) - 1 = (q' : Int) := by omega
          have hq1 : 1 ≤ (q : Int) := by omega
          have hqle : (q' : Int) ≤ 4294967296 := by have := HI.out.le; omega
          have HQ' := Lib.hid hq'
          clear hq'
          by_cases hr : (r : Int) + (v1 : Int) < 4294967296
          · have HI2 := HI.out.again HC.out.h1 HQ'.out (.inl (by omega)) (by omega)
            have hrd : decide ((r : Int) + (v1 : Int) < 4294967296) = true := decide_eq_true hr
            go_wp2_with fail
            go_step3
            exact ⟨rfl, s, g, a, un10, v1, v0, d1, d0, u1, u0, q', r + v1, [_, _, _, _, _, _, _, _, _, _, _, _, _, _, _, _, _, _, _, _, _, _, _, _, _, _, _, _, _, _, _, _, _, _, _, _, _, _, _, _, _, _, _, _, _, _, _, _, _, _, _, _, _, _, _, _, _, _, _, _, _, _, _, _, _, _, _, _, _, _, _, _, _, _, _, _, _, _, _, _, _, _, _, _, _, _, _, _, _, _, _, _, _, _, _, _, _, _, _, _, _, _, _, _, _, _, _], rfl, HC.out, HI2, hs63⟩
          · have hQ := HI.out.down HC.out.h1 HQ'.out (.inl (by omega)) (by omega)
            have hrd : decide ((r : Int) + (v1 : Int) < 4294967296) = false := decide_eq_false hr
            obtain ⟨b2, hC2, hbw⟩ := HC.out.second hQ
            have HC2 := Lib.hid hC2
            have hq1lt := hC2.qlt
            obtain ⟨hw1, hw2⟩ := quo_rule (a := b2) hv1hi (by omega) (by have := hC2.h2.alt; omega)
            have HI0 := DI.start hC2.h2
            generalize b2 / v1 = q0 at hw1 hw2 HI0
            generalize b2 % v1 = r0 at hw2 HI0
            have hrlt2 := HI0.rlt
            have HI2 := Lib.hid HI0
            clear hQ hC2 HI0
            go_wp2_with fail
            go_step3
            clear hbw hw1 hw2
            by_cases hq : (4294967296 : Int) ≤ (q0 : Int)
            · have hqt : decide ((4294967296 : Int) ≤ (q0 : Int)) = true := decide_eq_true hq
              obtain ⟨q0', hq'⟩ := HC2.out.h2.pos HI2.out (.inl (by omega))
              have hqm : (q0 : Int) - 1 = (q0' : Int) := by omega
              have hq1 : 1 ≤ (q0 : Int) := by omega
              have hqle : (q0' : Int) ≤ 4294967296 := by have := HI2.out.le; omega
              have HQ' := Lib.hid hq'
              clear hq'
              by_cases hr : (r0 : Int) + (v1 : Int) < 4294967296
              · have HI3 := HI2.out.again HC2.out.h2 HQ'.out (.inl (by omega)) (by omega)
                have hrd : decide ((r0 : Int) + (v1 : Int) < 4294967296) = true := decide_eq_true hr
                go_wp2_with fail
                go_step3
                exact ⟨rfl, s, g, a, un10, v1, v0, d1, d0, u1, u0, q', b2, q0', r0 + v1, [_, _, _, _, _, _, _, _, _, _, _, _, _, _, _, _, _, _, _, _, _, _, _, _, _, _, _, _, _, _, _, _, _, _, _, _, _, _, _, _, _, _, _, _, _, _, _, _, _, _, _, _, _, _, _, _, _, _, _, _, _, _, _, _, _, _, _, _, _, _, _, _, _, _, _, _, _, _, _, _, _, _, _, _, _, _, _, _, _, _, _, _, _, _, _, _, _, _, _, _, _, _, _, _, _], rfl, HC.out, HC2.out, HI3, hs63⟩
              · have hQ := HI2.out.down HC2.out.h2 HQ'.out (.inl (by omega)) (by omega)
                have hrd : decide ((r0 : Int) + (v1 : Int) < 4294967296) = false := decide_eq_false hr
                have HQ := Lib.hid hQ
                clear hQ
                go_wp2_with fail
                simp only [jumps]
                go_ret2
                exact HC.out.final HC2.out HQ.out (by first | exact .inl rfl | exact .inr (.inl rfl) | exact .inr (.inr rfl)) rfl
            · have hqt : decide ((4294967296 : Int) ≤ (q0 : Int)) = false := decide_eq_false hq
              obtain ⟨p, hp⟩ : ∃ p : Nat, p = q0 * v0 := ⟨_, rfl⟩
              have hpl : q0 * v0 < 18446744073709551616 := Nat.lt_of_le_of_lt (Nat.mul_le_mul (show q0 ≤ 4294967295 by omega) (show v0 ≤ 4294967295 by omega)) (by decide)
              have hpw : IntKind.u64.wrap ((q0 : Int) * (v0 : Int)) = (p : Int) := by rw [← Int.natCast_mul, wrap_u64_nat hpl, hp]
              have HP := Lib.hid hp
              clear hp hpl
              by_cases ht : 4294967296 * (r0 : Int) + (d0 : Int) < (p : Int)
              · have HT : Hid (4294967296 * r0 + d0 < q0 * v0) := Lib.hid (by rw [← HP.out]; omega)
                have htd : decide (4294967296 * (r0 : Int) + (d0 : Int) < (p : Int)) = true := decide_eq_true ht
                obtain ⟨q0', hq'⟩ := HC2.out.h2.pos HI2.out (.inr HT.out)
                have hqm : (q0 : Int) - 1 = (q0' : Int) := by omega
                have hq1 : 1 ≤ (q0 : Int) := by omega
                have hqle : (q0' : Int) ≤ 4294967296 := by have := HI2.out.le; omega
                have HQ' := Lib.hid hq'
                clear hq'
                by_cases hr : (r0 : Int) + (v1 : Int) < 4294967296
                · have HI3 := HI2.out.again HC2.out.h2 HQ'.out (.inr HT.out) (by omega)
                  have hrd : decide ((r0 : Int) + (v1 : Int) < 4294967296) = true := decide_eq_true hr
                  go_wp2_with fail
                  go_step3
                  exact ⟨rfl, s, g, a, un10, v1, v0, d1, d0, u1, u0, q', b2, q0', r0 + v1, [_, _, _, _, _, _, _, _, _, _, _, _, _, _, _, _, _, _, _, _, _, _, _, _, _, _, _, _, _, _, _, _, _, _, _, _, _, _, _, _, _, _, _, _, _, _, _, _, _, _, _, _, _, _, _, _, _, _, _, _, _, _, _, _, _, _, _, _, _, _, _, _, _, _, _, _, _, _, _, _, _, _, _, _, _, _, _, _, _, _, _, _, _, _, _, _, _, _, _, _, _, _, _, _, _], rfl, HC.out, HC2.out, HI3, hs63⟩
                · have hQ := HI2.out.down HC2.out.h2 HQ'.out (.inr HT.out) (by omega)
                  have hrd : decide ((r0 : Int) + (v1 : Int) < 4294967296) = false := decide_eq_false hr
                  have HQ := Lib.hid hQ
                  clear hQ
                  go_wp2_with fail
                  simp only [jumps]
                  go_ret2
                  exact HC.out.final HC2.out HQ.out (by first | exact .inl rfl | exact .inr (.inl rfl) | exact .inr (.inr rfl)) rfl
              · have hQ := HI2.out.stay HC2.out.h2 (by omega) (by rw [← HP.out]; omega)
                have htd : decide (4294967296 * (r0 : Int) + (d0 : Int) < (p : Int)) = false := decide_eq_false ht
                have HQ := Lib.hid hQ
                clear hQ
                go_wp2_with fail
                simp only [jumps]
                go_ret2
                exact HC.out.final HC2.out HQ.out (by first | exact .inl rfl | exact .inr (.inl rfl) | exact .inr (.inr rfl)) rfl
        · have hqt : decide ((4294967296 : Int) ≤ (q : Int)) = false := decide_eq_false hq
          obtain ⟨p, hp⟩ : ∃ p : Nat, p = q * v0 := ⟨_, rfl⟩
          have hpl : q * v0 < 18446744073709551616 := Nat.lt_of_le_of_lt (Nat.mul_le_mul (show q ≤ 4294967295 by omega) (show v0 ≤ 4294967295 by omega)) (by decide)
          have hpw : IntKind.u64.wrap ((q : Int) * (v0 : Int)) = (p : Int) := by rw [← Int.natCast_mul, wrap_u64_nat hpl, hp]
          have HP := Lib.hid hp
          clear hp hpl
          by_cases ht : 4294967296 * (r : Int) + (d1 : Int) < (p : Int)
          · have HT : Hid (4294967296 * r + d1 < q * v0) := Lib.hid (by rw [← HP.out]; omega)
            have htd : decide (4294967296 * (r : Int) + (d1 : Int) < (p : Int)) = true := decide_eq_true ht
            obtain ⟨q', hq'⟩ := HC.out.h1.pos HI.out (.inr HT.out)
            have hqm : (q : Int) - 1 = (q' : Int) := by omega
            have hq1 : 1 ≤ (q : Int) := by omega
            have hqle : (q' : Int) ≤ 4294967296 := by have := HI.out.le; omega
            have HQ' := Lib.hid hq'
            clear hq'
            by_cases hr : (r : Int) + (v1 : Int) < 4294967296
            · have HI2 := HI.out.again HC.out.h1 HQ'.out (.inr HT.out) (by omega)
              have hrd : decide ((r : Int) + (v1 : Int) < 4294967296) = true := decide_eq_true hr
              go_wp2_with fail
              go_step3
              exact ⟨rfl, s, g, a, un10, v1, v0, d1, d0, u1, u0, q', r + v1, [_, _, _, _, _, _, _, _, _, _, _, _, _, _, _, _, _, _, _, _, _, _, _, _, _, _, _, _, _, _, _, _, _, _, _, _, _, _, _, _, _, _, _, _, _, _, _, _, _, _, _, _, _, _, _, _, _, _, _, _, _, _, _, _, _, _, _, _, _, _, _, _, _, _, _, _, _, _, _, _, _, _, _, _, _, _, _, _, _, _, _, _, _, _, _, _, _, _, _, _, _, _, _, _, _, _, _], rfl, HC.out, HI2, hs63⟩
            · have hQ := HI.out.down HC.out.h1 HQ'.out (.inr HT.out) (by omega)
              have hrd : decide ((r : Int) + (v1 : Int) < 4294967296) = false := decide_eq_false hr
              obtain ⟨b2, hC2, hbw⟩ := HC.out.second hQ
              have HC2 := Lib.hid hC2
              have hq1lt := hC2.qlt
              obtain ⟨hw1, hw2⟩ := quo_rule (a := b2) hv1hi (by omega) (by have := hC2.h2.alt; omega)
              have HI0 := DI.start hC2.h2
              generalize b2 / v1 = q0 at hw1 hw2 HI0
              generalize b2 % v1 = r0 at hw2 HI0
              have hrlt2 := HI0.rlt
              have HI2 := Lib.hid HI0
              clear hQ hC2 HI0
              go_wp2_with fail
              go_step3
              clear hbw hw1 hw2
              by_cases hq : (4294967296 : Int) ≤ (q0 : Int)
              · have hqt : decide ((4294967296 : Int) ≤ (q0 : Int)) = true := decide_eq_true hq
                obtain ⟨q0', hq'⟩ := HC2.out.h2.pos HI2.out (.inl (by omega))
                have hqm : (q0 : Int) - 1 = (q0' : Int) := by omega
                have hq1 : 1 ≤ (q0 : Int) := by omega
                have hqle : (q0' : Int) ≤ 4294967296 := by have := HI2.out.le; omega
                have HQ' := Lib.hid hq'
                clear hq'
                by_cases hr : (r0 : Int) + (v1 : Int) < 4294967296
                · have HI3 := HI2.out.again HC2.out.h2 HQ'.out (.inl (by omega)) (by omega)
                  have hrd : decide ((r0 : Int) + (v1 : Int) < 4294967296) = true := decide_eq_true hr
                  go_wp2_with fail
                  go_step3
                  exact ⟨rfl, s, g, a, un10, v1, v0, d1, d0, u1, u0, q', b2, q0', r0 + v1, [_, _, _, _, _, _, _, _, _, _, _, _, _, _, _, _, _, _, _, _, _, _, _, _, _, _, _, _, _, _, _, _, _, _, _, _, _, _, _, _, _, _, _, _, _, _, _, _, _, _, _, _, _, _, _, _, _, _, _, _, _, _, _, _, _, _, _, _, _, _, _, _, _, _, _, _, _, _, _, _, _, _, _, _, _, _, _, _, _, _, _, _, _, _, _, _, _, _, _, _, _, _, _, _, _], rfl, HC.out, HC2.out, HI3, hs63⟩
                · have hQ := HI2.out.down HC2.out.h2 HQ'.out (.inl (by omega)) (by omega)
                  have hrd : decide ((r0 : Int) + (v1 : Int) < 4294967296) = false := decide_eq_false hr
                  have HQ := Lib.hid hQ
                  clear hQ
                  go_wp2_with fail
                  simp only [jumps]
                  go_ret2
                  exact HC.out.final HC2.out HQ.out (by first | exact .inl rfl | exact .inr (.inl rfl) | exact .inr (.inr rfl)) rfl
              · have hqt : decide ((4294967296 : Int) ≤ (q0 : Int)) = false := decide_eq_false hq
                obtain ⟨p, hp⟩ : ∃ p : Nat, p = q0 * v0 := ⟨_, rfl⟩
                have hpl : q0 * v0 < 18446744073709551616 := Nat.lt_of_le_of_lt (Nat.mul_le_mul (show q0 ≤ 4294967295 by omega) (show v0 ≤ 4294967295 by omega)) (by decide)
                have hpw : IntKind.u64.wrap ((q0 : Int) * (v0 : Int)) = (p : Int) := by rw [← Int.natCast_mul, wrap_u64_nat hpl, hp]
                have HP := Lib.hid hp
                clear hp hpl
                by_cases ht : 4294967296 * (r0 : Int) + (d0 : Int) < (p : Int)
                · have HT : Hid (4294967296 * r0 + d0 < q0 * v0) := Lib.hid (by rw [← HP.out]; omega)
                  have htd : decide (4294967296 * (r0 : Int) + (d0 : Int) < (p : Int)) = true := decide_eq_true ht
                  obtain ⟨q0', hq'⟩ := HC2.out.h2.pos HI2.out (.inr HT.out)
                  have hqm : (q0 : Int) - 1 = (q0' : Int) := by omega
                  have hq1 : 1 ≤ (q0 : Int) := by omega
                  have hqle : (q0' : Int) ≤ 4294967296 := by have := HI2.out.le; omega
                  have HQ' := Lib.hid hq'
                  clear hq'
                  by_cases hr : (r0 : Int) + (v1 : Int) < 4294967296
                  · have HI3 := HI2.out.again HC2.out.h2 HQ'.out (.inr HT.out) (by omega)
                    have hrd : decide ((r0 : Int) + (v1 : Int) < 4294967296) = true := decide_eq_true hr
                    go_wp2_with fail
                    go_step3
                    exact ⟨rfl, s, g, a, un10, v1, v0, d1, d0, u1, u0, q', b2, q0', r0 + v1, [_, _, _, _, _, _, _, _, _, _, _, _, _, _, _, _, _, _, _, _, _, _, _, _, _, _, _, _, _, _, _, _, _, _, _, _, _, _, _, _, _, _, _, _, _, _, _, _, _, _, _, _, _, _, _, _, _, _, _, _, _, _, _, _, _, _, _, _, _, _, _, _, _, _, _, _, _, _, _, _, _, _, _, _, _, _, _, _, _, _, _, _, _, _, _, _, _, _, _, _, _, _, _, _, _], rfl, HC.out, HC2.out, HI3, hs63⟩
                  · have hQ := HI2.out.down HC2.out.h2 HQ'.out (.inr HT.out) (by omega)
                    have hrd : decide ((r0 : Int) + (v1 : Int) < 4294967296) = false := decide_eq_false hr
                    have HQ := Lib.hid hQ
                    clear hQ
                    go_wp2_with fail
                    simp only [jumps]
                    go_ret2
                    exact HC.out.final HC2.out HQ.out (by first | exact .inl rfl | exact .inr (.inl rfl) | exact .inr (.inr rfl)) rfl
                · have hQ := HI2.out.stay HC2.out.h2 (by omega) (by rw [← HP.out]; omega)
                  have htd : decide (4294967296 * (r0 : Int) + (d0 : Int) < (p : Int)) = false := decide_eq_false ht
                  have HQ := Lib.hid hQ
                  clear hQ
                  go_wp2_with fail
                  simp only [jumps]
                  go_ret2
                  exact HC.out.final HC2.out HQ.out (by first | exact .inl rfl | exact .inr (.inl rfl) | exact .inr (.inr rfl)) rfl
          · have hQ := HI.out.stay HC.out.h1 (by omega) (by rw [← HP.out]; omega)
            have htd : decide (4294967296 * (r : Int) + (d1 : Int) < (p : Int)) = false := decide_eq_false ht
            obtain ⟨b2, hC2, hbw⟩ := HC.out.second hQ
            have HC2 := Lib.hid hC2
            have hq1lt := hC2.qlt
            obtain ⟨hw1, hw2⟩ := quo_rule (a := b2) hv1hi (by omega) (by have := hC2.h2.alt; omega)
            have HI0 := DI.start hC2.h2
            generalize b2 / v1 = q0 at hw1 hw2 HI0
            generalize b2 % v1 = r0 at hw2 HI0
            have hrlt2 := HI0.rlt
            have HI2 := Lib.hid HI0
            clear hQ hC2 HI0
            go_wp2_with fail
            go_step3
            clear hbw hw1 hw2
            by_cases hq : (4294967296 : Int) ≤ (q0 : Int)
            · have hqt : decide ((4294967296 : Int) ≤ (q0 : Int)) = true := decide_eq_true hq
              obtain ⟨q0', hq'⟩ := HC2.out.h2.pos HI2.out (.inl (by omega))
              have hqm : (q0 : Int) - 1 = (q0' : Int) := by omega
              have hq1 : 1 ≤ (q0 : Int) := by omega
              have hqle : (q0' : Int) ≤ 4294967296 := by have := HI2.out.le; omega
              have HQ' := Lib.hid hq'
              clear hq'
              by_cases hr : (r0 : Int) + (v1 : Int) < 4294967296
              · have HI3 := HI2.out.again HC2.out.h2 HQ'.out (.inl (by omega)) (by omega)
                have hrd : decide ((r0 : Int) + (v1 : Int) < 4294967296) = true := decide_eq_true hr
                go_wp2_with fail
                go_step3
                exact ⟨rfl, s, g, a, un10, v1, v0, d1, d0, u1, u0, q, b2, q0', r0 + v1, [_, _, _, _, _, _, _, _, _, _, _, _, _, _, _, _, _, _, _, _, _, _, _, _, _, _, _, _, _, _, _, _, _, _, _, _, _, _, _, _, _, _, _, _, _, _, _, _, _, _, _, _, _, _, _, _, _, _, _, _, _, _, _, _, _, _, _, _, _, _, _, _, _, _, _, _, _, _, _, _, _, _, _, _, _, _, _, _, _, _, _, _, _, _, _, _, _, _, _, _, _, _, _, _, _], rfl, HC.out, HC2.out, HI3, hs63⟩
              · have hQ := HI2.out.down HC2.out.h2 HQ'.out (.inl (by omega)) (by omega)
                have hrd : decide ((r0 : Int) + (v1 : Int) < 4294967296) = false := decide_eq_false hr
                have HQ := Lib.hid hQ
                clear hQ
                go_wp2_with fail
                simp only [jumps]
                go_ret2
                exact HC.out.final HC2.out HQ.out (by first | exact .inl rfl | exact .inr (.inl rfl) | exact .inr (.inr rfl)) rfl
            · have hqt : decide ((4294967296 : Int) ≤ (q0 : Int)) = false := decide_eq_false hq
              obtain ⟨p, hp⟩ : ∃ p : Nat, p = q0 * v0 := ⟨_, rfl⟩
              have hpl : q0 * v0 < 18446744073709551616 := Nat.lt_of_le_of_lt (Nat.mul_le_mul (show q0 ≤ 4294967295 by omega) (show v0 ≤ 4294967295 by omega)) (by decide)
              have hpw : IntKind.u64.wrap ((q0 : Int) * (v0 : Int)) = (p : Int) := by rw [← Int.natCast_mul, wrap_u64_nat hpl, hp]
              have HP := Lib.hid hp
              clear hp hpl
              by_cases ht : 4294967296 * (r0 : Int) + (d0 : Int) < (p : Int)
              · have HT : Hid (4294967296 * r0 + d0 < q0 * v0) := Lib.hid (by rw [← HP.out]; omega)
                have htd : decide (4294967296 * (r0 : Int) + (d0 : Int) < (p : Int)) = true := decide_eq_true ht
                obtain ⟨q0', hq'⟩ := HC2.out.h2.pos HI2.out (.inr HT.out)
                have hqm : (q0 : Int) - 1 = (q0' : Int) := by omega
                have hq1 : 1 ≤ (q0 : Int) := by omega
                have hqle : (q0' : Int) ≤ 4294967296 := by have := HI2.out.le; omega
                have HQ' := Lib.hid hq'
                clear hq'
                by_cases hr : (r0 : Int) + (v1 : Int) < 4294967296
                · have HI3 := HI2.out.again HC2.out.h2 HQ'.out (.inr HT.out) (by omega)
                  have hrd : decide ((r0 : Int) + (v1 : Int) < 4294967296) = true := decide_eq_true hr
                  go_wp2_with fail
                  go_step3
                  exact ⟨rfl, s, g, a, un10, v1, v0, d1, d0, u1, u0, q, b2, q0', r0 + v1, [_, _, _, _, _, _, _, _, _, _, _, _, _, _, _, _, _, _, _, _, _, _, _, _, _, _, _, _, _, _, _, _, _, _, _, _, _, _, _, _, _, _, _, _, _, _, _, _, _, _, _, _, _, _, _, _, _, _, _, _, _, _, _, _, _, _, _, _, _, _, _, _, _, _, _, _, _, _, _, _, _, _, _, _, _, _, _, _, _, _, _, _, _, _, _, _, _, _, _, _, _, _, _, _, _], rfl, HC.out, HC2.out, HI3, hs63⟩
                · have hQ := HI2.out.down HC2.out.h2 HQ'.out (.inr HT.out) (by omega)
                  have hrd : decide ((r0 : Int) + (v1 : Int) < 4294967296) = false := decide_eq_false hr
                  have HQ := Lib.hid hQ
                  clear hQ
                  go_wp2_with fail
                  simp only [jumps]
                  go_ret2
                  exact HC.out.final HC2.out HQ.out (by first | exact .inl rfl | exact .inr (.inl rfl) | exact .inr (.inr rfl)) rfl
              · have hQ := HI2.out.stay HC2.out.h2 (by omega) (by rw [← HP.out]; omega)
                have htd : decide (4294967296 * (r0 : Int) + (d0 : Int) < (p : Int)) = false := decide_eq_false ht
                have HQ := Lib.hid hQ
                clear hQ
                go_wp2_with fail
                simp only [jumps]
                go_ret2
                exact HC.out.final HC2.out HQ.out (by first | exact .inl rfl | exact .inr (.inl rfl) | exact .inr (.inr rfl)) rfl
  case pass =>
    intro l a' w' hJ
    clear hd
    rcases l with _ | _ | l
    · unfold DJ at hJ
      obtain ⟨rfl, s, g, a, un10, v1, v0, d1, d0, u1, u0, q, r, L, rfl, HC0, HI0, hs63⟩ := hJ
      have HC := Lib.hid HC0
      have HI := Lib.hid HI0
      have hv1lo := HC0.h1.v1lo
      have hv1hi := HC0.h1.v1hi
      have hv0hi := HC0.h1.v0hi
      have hd1lt := HC0.h1.dlt
      have hd0lt := HC0.d0lt
      have hrlt := HI0.rlt
      clear HC0 HI0
      refine ⟨_, rfl, ?_⟩
      by_cases hq : (4294967296 : Int) ≤ (q : Int)
      · have hqt : decide ((4294967296 : Int) ≤ (q : Int)) = true := decide_eq_true hq
        obtain ⟨q', hq'⟩ := HC.out.h1.pos HI.out (.inl (by omega))
        have hqm : (q : Int) - 1 = (q' : Int) := by omega
        have hq1 : 1 ≤ (q : Int) := by omega
        have hqle : (q' : Int) ≤ 4294967296 := by have := HI.out.le; omega
        have HQ' := Lib.hid hq'
        clear hq'
        by_cases hr : (r : Int) + (v1 : Int) < 4294967296
        · have HI2 := HI.out.again HC.out.h1 HQ'.out (.inl (by omega)) (by omega)
          have hrd : decide ((r : Int) + (v1 : Int) < 4294967296) = true := decide_eq_true hr
          go_wp2_with fail
          go_step3
          exact ⟨⟨rfl, s, g, a, un10, v1, v0, d1, d0, u1, u0, q', r + v1, [_, _, _, _, _, _, _, _, _, _, _, _, _, _, _, _, _, _, _, _, _, _, _, _, _, _, _, _, _, _, _, _, _, _, _, _, _, _, _, _, _, _, _, _, _, _, _, _, _, _, _, _, _, _, _, _, _, _, _, _, _, _, _, _, _, _, _, _, _, _, _, _, _, _, _, _, _, _, _, _, _, _, _, _, _, _, _, _, _, _, _, _, _, _, _, _, _, _, _, _, _, _, _, _, _, _, _], rfl, HC.out, HI2, hs63⟩, by simp [msDJ, intOf]; omega⟩
        · have hQ := HI.out.down HC.out.h1 HQ'.out (.inl (by omega)) (by omega)
          have hrd : decide ((r : Int) + (v1 : Int) < 4294967296) = false := decide_eq_false hr
          obtain ⟨b2, hC2, hbw⟩ := HC.out.second hQ
          have HC2 := Lib.hid hC2
          have hq1lt := hC2.qlt
          obtain ⟨hw1, hw2⟩ := quo_rule (a := b2) hv1hi (by omega) (by have := hC2.h2.alt; omega)
          have HI0 := DI.start hC2.h2
          generalize b2 / v1 = q0 at hw1 hw2 HI0
          generalize b2 % v1 = r0 at hw2 HI0
          have hrlt2 := HI0.rlt
          have HI2 := Lib.hid HI0
          clear hQ hC2 HI0
          go_wp2_with fail
          go_step3
          clear hbw hw1 hw2
          by_cases hq : (4294967296 : Int) ≤ (q0 : Int)
          · have hqt : decide ((4294967296 : Int) ≤ (q0 : Int)) = true := decide_eq_true hq
            obtain ⟨q0', hq'⟩ := HC2.out.h2.pos HI2.out (.inl (by omega))
            have hqm : (q0 : Int) - 1 = (q0' : Int) := by omega
            have hq1 : 1 ≤ (q0 : Int) := by omega
            have hqle : (q0' : Int) ≤ 4294967296 := by have := HI2.out.le; omega
            have HQ' := Lib.hid hq'
            clear hq'
            by_cases hr : (r0 : Int) + (v1 : Int) < 4294967296
            · have HI3 := HI2.out.again HC2.out.h2 HQ'.out (.inl (by omega)) (by omega)
              have hrd : decide ((r0 : Int) + (v1 : Int) < 4294967296) = true := decide_eq_true hr
              go_wp2_with fail
              go_step3
              exact ⟨⟨rfl, s, g, a, un10, v1, v0, d1, d0, u1, u0, q', b2, q0', r0 + v1, [_, _, _, _, _, _, _, _, _, _, _, _, _, _, _, _, _, _, _, _, _, _, _, _, _, _, _, _, _, _, _, _, _, _, _, _, _, _, _, _, _, _, _, _, _, _, _, _, _, _, _, _, _, _, _, _, _, _, _, _, _, _, _, _, _, _, _, _, _, _, _, _, _, _, _, _, _, _, _, _, _, _, _, _, _, _, _, _, _, _, _, _, _, _, _, _, _, _, _, _, _, _, _, _, _], rfl, HC.out, HC2.out, HI3, hs63⟩, by simp [msDJ, intOf]; omega⟩
            · have hQ := HI2.out.down HC2.out.h2 HQ'.out (.inl (by omega)) (by omega)
              have hrd : decide ((r0 : Int) + (v1 : Int) < 4294967296) = false := decide_eq_false hr
              have HQ := Lib.hid hQ
              clear hQ
              go_wp2_with fail
              simp only [jumps]
              go_ret2
              exact HC.out.final HC2.out HQ.out (by first | exact .inl rfl | exact .inr (.inl rfl) | exact .inr (.inr rfl)) rfl
          · have hqt : decide ((4294967296 : Int) ≤ (q0 : Int)) = false := decide_eq_false hq
            obtain ⟨p, hp⟩ : ∃ p : Nat, p = q0 * v0 := ⟨_, rfl⟩
            have hpl : q0 * v0 < 18446744073709551616 := Nat.lt_of_le_of_lt (Nat.mul_le_mul (show q0 ≤ 4294967295 by omega) (show v0 ≤ 4294967295 by omega)) (by decide)
            have hpw : IntKind.u64.wrap ((q0 : Int) * (v0 : Int)) = (p : Int) := by rw [← Int.natCast_mul, wrap_u64_nat hpl, hp]
            have HP := Lib.hid hp
            clear hp hpl
            by_cases ht : 4294967296 * (r0 : Int) + (d0 : Int) < (p : Int)
            · have HT : Hid (4294967296 * r0 + d0 < q0 * v0) := Lib.hid (by rw [← HP.out]; omega)
              have htd : decide (4294967296 * (r0 : Int) + (d0 : Int) < (p : Int)) = true := decide_eq_true ht
              obtain ⟨q0', hq'⟩ := HC2.out.h2.pos HI2.out (.inr HT.out)
              have hqm : (q0 : Int) - 1 = (q0' : Int) := by omega
              have hq1 : 1 ≤ (q0 : Int) := by omega
              have hqle : (q0' : Int) ≤ 4294967296 := by have := HI2.out.le; omega
              have HQ' := Lib.hid hq'
              clear hq'
              by_cases hr : (r0 : Int) + (v1 : Int) < 4294967296
              · have HI3 := HI2.out.again HC2.out.h2 HQ'.out (.inr HT.out) (by omega)
                have hrd : decide ((r0 : Int) + (v1 : Int) < 4294967296) = true := decide_eq_true hr
                go_wp2_with fail
                go_step3
                exact ⟨⟨rfl, s, g, a, un10, v1, v0, d1, d0, u1, u0, q', b2, q0', r0 + v1, [_, _, _, _, _, _, _, _, _, _, _, _, _, _, _, _, _, _, _, _, _, _, _, _, _, _, _, _, _, _, _, _, _, _, _, _, _, _, _, _, _, _, _, _, _, _, _, _, _, _, _, _, _, _, _, _, _, _, _, _, _, _, _, _, _, _, _, _, _, _, _, _, _, _, _, _, _, _, _, _, _, _, _, _, _, _, _, _, _, _, _, _, _, _, _, _, _, _, _, _, _, _, _, _, _], rfl, HC.out, HC2.out, HI3, hs63⟩, by simp [msDJ, intOf]; omega⟩
              · have hQ := HI2.out.down HC2.out.h2 HQ'.out (.inr HT.out) (by omega)
                have hrd : decide ((r0 : Int) + (v1 : Int) < 4294967296) = false := decide_eq_false hr
                have HQ := Lib.hid hQ
                clear hQ
                go_wp2_with fail
                simp only [jumps]
                go_ret2
                exact HC.out.final HC2.out HQ.out (by first | exact .inl rfl | exact .inr (.inl rfl) | exact .inr (.inr rfl)) rfl
            · have hQ := HI2.out.stay HC2.out.h2 (by omega) (by rw [← HP.out]; omega)
              have htd : decide (4294967296 * (r0 : Int) + (d0 : Int) < (p : Int)) = false := decide_eq_false ht
              have HQ := Lib.hid hQ
              clear hQ
              go_wp2_with fail
              simp only [jumps]
              go_ret2
              exact HC.out.final HC2.out HQ.out (by first | exact .inl rfl | exact .inr (.inl rfl) | exact .inr (.inr rfl)) rfl
      · have hqt : decide ((4294967296 : Int) ≤ (q : Int)) = false := decide_eq_false hq
        obtain ⟨p, hp⟩ : ∃ p : Nat, p = q * v0 := ⟨_, rfl⟩
        have hpl : q * v0 < 18446744073709551616 := Nat.lt_of_le_of_lt (Nat.mul_le_mul (show q ≤ 4294967295 by omega) (show v0 ≤ 4294967295 by omega)) (by decide)
        have hpw : IntKind.u64.wrap ((q : Int) * (v0 : Int)) = (p : Int) := by rw [← Int.natCast_mul, wrap_u64_nat hpl, hp]
        have HP := Lib.hid hp
        clear hp hpl
        by_cases ht : 4294967296 * (r : Int) + (d1 : Int) < (p : Int)
        · have HT : Hid (4294967296 * r + d1 < q * v0) := Lib.hid (by rw [← HP.out]; omega)
          have htd : decide (4294967296 * (r : Int) + (d1 : Int) < (p : Int)) = true := decide_eq_true ht
          obtain ⟨q', hq'⟩ := HC.out.h1.pos HI.out (.inr HT.out)
          have hqm : (q : Int) - 1 = (q' : Int) := by omega
          have hq1 : 1 ≤ (q : Int) := by omega
          have hqle : (q' : Int) ≤ 4294967296 := by have := HI.out.le; omega
          have HQ' := Lib.hid hq'
          clear hq'
          by_cases hr : (r : Int) + (v1 : Int) < 4294967296
          · have HI2 := HI.out.again HC.out.h1 HQ'.out (.inr HT.out) (by omega)
            have hrd : decide ((r : Int) + (v1 : Int) < 4294967296) = true := decide_eq_true hr
            go_wp2_with fail
            go_step3
            exact ⟨⟨rfl, s, g, a, un10, v1, v0, d1, d0, u1, u0, q', r + v1, [_, _, _, _, _, _, _, _, _, _, _, _, _, _, _, _, _, _, _, _, _, _, _, _, _, _, _, _, _, _, _, _, _, _, _, _, _, _, _, _, _, _, _, _, _, _, _, _, _, _, _, _, _, _, _, _, _, _, _, _, _, _, _, _, _, _, _, _, _, _, _, _, _, _, _, _, _, _, _, _, _, _, _, _, _, _, _, _, _, _, _, _, _, _, _, _, _, _, _, _, _, _, _, _, _, _, _], rfl, HC.out, HI2, hs63⟩, by simp [msDJ, intOf]; omega⟩
          · have hQ := HI.out.down HC.out.h1 HQ'.out (.inr HT.out) (by omega)
            have hrd : decide ((r : Int) + (v1 : Int) < 4294967296) = false := decide_eq_false hr
            obtain ⟨b2, hC2, hbw⟩ := HC.out.second hQ
            have HC2 := Lib.hid hC2
            have hq1lt := hC2.qlt
            obtain ⟨hw1, hw2⟩ := quo_rule (a := b2) hv1hi (by omega) (by have := hC2.h2.alt; omega)
            have HI0 := DI.start hC2.h2
            generalize b2 / v1 = q0 at hw1 hw2 HI0
            generalize b2 % v1 = r0 at hw2 HI0
            have hrlt2 := HI0.rlt
            have HI2 := Lib.hid HI0
            clear hQ hC2 HI0
            go_wp2_with fail
            go_step3
            clear hbw hw1 hw2
            by_cases hq : (4294967296 : Int) ≤ (q0 : Int)
            · have hqt : decide ((4294967296 : Int) ≤ (q0 : Int)) = true := decide_eq_true hq
              obtain ⟨q0', hq'⟩ := HC2.out.h2.pos HI2.out (.inl (by omega))
              have hqm : (q0 : Int) - 1 = (q0' : Int) := by omega
              have hq1 : 1 ≤ (q0 : Int) := by omega
              have hqle : (q0' : Int) ≤ 4294967296 := by have := HI2.out.le; omega
              have HQ' := Lib.hid hq'
              clear hq'
              by_cases hr : (r0 : Int) + (v1 : Int) < 4294967296
              · have HI3 := HI2.out.again HC2.out.h2 HQ'.out (.inl (by omega)) (by omega)
                have hrd : decide ((r0 : Int) + (v1 : Int) < 4294967296) = true := decide_eq_true hr
                go_wp2_with fail
                go_step3
                exact ⟨⟨rfl, s, g, a, un10, v1, v0, d1, d0, u1, u0, q', b2, q0', r0 + v1, [_, _, _, _, _, _, _, _, _, _, _, _, _, _, _, _, _, _, _, _, _, _, _, _, _, _, _, _, _, _, _, _, _, _, _, _, _, _, _, _, _, _, _, _, _, _, _, _, _, _, _, _, _, _, _, _, _, _, _, _, _, _, _, _, _, _, _, _, _, _, _, _, _, _, _, _, _, _, _, _, _, _, _, _, _, _, _, _, _, _, _, _, _, _, _, _, _, _, _, _, _, _, _, _, _], rfl, HC.out, HC2.out, HI3, hs63⟩, by simp [msDJ, intOf]; omega⟩
              · have hQ := HI2.out.down HC2.out.h2 HQ'.out (.inl (by omega)) (by omega)
                have hrd : decide ((r0 : Int) + (v1 : Int) < 4294967296) = false := decide_eq_false hr
                have HQ := Lib.hid hQ
                clear hQ
                go_wp2_with fail
                simp only [jumps]
                go_ret2
                exact HC.out.final HC2.out HQ.out (by first | exact .inl rfl | exact .inr (.inl rfl) | exact .inr (.inr rfl)) rfl
            · have hqt : decide ((4294967296 : Int) ≤ (q0 : Int)) = false := decide_eq_false hq
              obtain ⟨p, hp⟩ : ∃ p : Nat, p = q0 * v0 := ⟨_, rfl⟩
              have hpl : q0 * v0 < 18446744073709551616 := Nat.lt_of_le_of_lt (Nat.mul_le_mul (show q0 ≤ 4294967295 by omega) (show v0 ≤ 4294967295 by omega)) (by decide)
              have hpw : IntKind.u64.wrap ((q0 : Int) * (v0 : Int)) = (p : Int) := by rw [← Int.natCast_mul, wrap_u64_nat hpl, hp]
              have HP := Lib.hid hp
              clear hp hpl
              by_cases ht : 4294967296 * (r0 : Int) + (d0 : Int) < (p : Int)
              · have HT : Hid (4294967296 * r0 + d0 < q0 * v0) := Lib.hid (by rw [← HP.out]; omega)
                have htd : decide (4294967296 * (r0 : Int) + (d0 : Int) < (p : Int)) = true := decide_eq_true ht
                obtain ⟨q0', hq'⟩ := HC2.out.h2.pos HI2.out (.inr HT.out)
                have hqm : (q0 : Int) - 1 = (q0' : Int) := by omega
                have hq1 : 1 ≤ (q0 : Int) := by omega
                have hqle : (q0' : Int) ≤ 4294967296 := by have := HI2.out.le; omega
                have HQ' := Lib.hid hq'
                clear hq'
                by_cases hr : (r0 : Int) + (v1 : Int) < 4294967296
                · have HI3 := HI2.out.again HC2.out.h2 HQ'.out (.inr HT.out) (by omega)
                  have hrd : decide ((r0 : Int) + (v1 : Int) < 4294967296) = true := decide_eq_true hr
                  go_wp2_with fail
                  go_step3
                  exact ⟨⟨rfl, s, g, a, un10, v1, v0, d1, d0, u1, u0, q', b2, q0', r0 + v1, [_, _, _, _, _, _, _, _, _, _, _, _, _, _, _, _, _, _, _, _, _, _, _, _, _, _, _, _, _, _, _, _, _, _, _, _, _, _, _, _, _, _, _, _, _, _, _, _, _, _, _, _, _, _, _, _, _, _, _, _, _, _, _, _, _, _, _, _, _, _, _, _, _, _, _, _, _, _, _, _, _, _, _, _, _, _, _, _, _, _, _, _, _, _, _, _, _, _, _, _, _, _, _, _, _], rfl, HC.out, HC2.out, HI3, hs63⟩, by simp [msDJ, intOf]; omega⟩
                · have hQ := HI2.out.down HC2.out.h2 HQ'.out (.inr HT.out) (by omega)
                  have hrd : decide ((r0 : Int) + (v1 : Int) < 4294967296) = false := decide_eq_false hr
                  have HQ := Lib.hid hQ
                  clear hQ
                  go_wp2_with fail
                  simp only [jumps]
                  go_ret2
                  exact HC.out.final HC2.out HQ.out (by first | exact .inl rfl | exact .inr (.inl rfl) | exact .inr (.inr rfl)) rfl
              · have hQ := HI2.out.stay HC2.out.h2 (by omega) (by rw [← HP.out]; omega)
                have htd : decide (4294967296 * (r0 : Int) + (d0 : Int) < (p : Int)) = false := decide_eq_false ht
                have HQ := Lib.hid hQ
                clear hQ
                go_wp2_with fail
                simp only [jumps]
                go_ret2
                exact HC.out.final HC2.out HQ.out (by first | exact .inl rfl | exact .inr (.inl rfl) | exact .inr (.inr rfl)) rfl
        · have hQ := HI.out.stay HC.out.h1 (by omega) (by rw [← HP.out]; omega)
          have htd : decide (4294967296 * (r : Int) + (d1 : Int) < (p : Int)) = false := decide_eq_false ht
          obtain ⟨b2, hC2, hbw⟩ := HC.out.second hQ
          have HC2 := Lib.hid hC2
          have hq1lt := hC2.qlt
          obtain ⟨hw1, hw2⟩ := quo_rule (a := b2) hv1hi (by omega) (by have := hC2.h2.alt; omega)
          have HI0 := DI.start hC2.h2
          generalize b2 / v1 = q0 at hw1 hw2 HI0
          generalize b2 % v1 = r0 at hw2 HI0
          have hrlt2 := HI0.rlt
          have HI2 := Lib.hid HI0
          clear hQ hC2 HI0
          go_wp2_with fail
          go_step3
          clear hbw hw1 hw2
          by_cases hq : (4294967296 : Int) ≤ (q0 : Int)
          · have hqt : decide ((4294967296 : Int) ≤ (q0 : Int)) = true := decide_eq_true hq
            obtain ⟨q0', hq'⟩ := HC2.out.h2.pos HI2.out (.inl (by omega))
            have hqm : (q0 : Int) - 1 = (q0' : Int) := by omega
            have hq1 : 1 ≤ (q0 : Int) := by omega
            have hqle : (q0' : Int) ≤ 4294967296 := by have := HI2.out.le; omega
            have HQ' := Lib.hid hq'
            clear hq'
            by_cases hr : (r0 : Int) + (v1 : Int) < 4294967296
            · have HI3 := HI2.out.again HC2.out.h2 HQ'.out (.inl (by omega)) (by omega)
              have hrd : decide ((r0 : Int) + (v1 : Int) < 4294967296) = true := decide_eq_true hr
              go_wp2_with fail
              go_step3
              exact ⟨⟨rfl, s, g, a, un10, v1, v0, d1, d0, u1, u0, q, b2, q0', r0 + v1, [_, _, _, _, _, _, _, _, _, _, _, _, _, _, _, _, _, _, _, _, _, _, _, _, _, _, _, _, _, _, _, _, _, _, _, _, _, _, _, _, _, _, _, _, _, _, _, _, _, _, _, _, _, _, _, _, _, _, _, _, _, _, _, _, _, _, _, _, _, _, _, _, _, _, _, _, _, _, _, _, _, _, _, _, _, _, _, _, _, _, _, _, _, _, _, _, _, _, _, _, _, _, _, _, _], rfl, HC.out, HC2.out, HI3, hs63⟩, by simp [msDJ, intOf]; omega⟩
            · have hQ := HI2.out.down HC2.out.h2 HQ'.out (.inl (by omega)) (by omega)
              have hrd : decide ((r0 : Int) + (v1 : Int) < 4294967296) = false := decide_eq_false hr
              have HQ := Lib.hid hQ
              clear hQ
              go_wp2_with fail
              simp only [jumps]
              go_ret2
              exact HC.out.final HC2.out HQ.out (by first | exact .inl rfl | exact .inr (.inl rfl) | exact .inr (.inr rfl)) rfl
          · have hqt : decide ((4294967296 : Int) ≤ (q0 : Int)) = false := decide_eq_false hq
            obtain ⟨p, hp⟩ : ∃ p : Nat, p = q0 * v0 := ⟨_, rfl⟩
            have hpl : q0 * v0 < 18446744073709551616 := Nat.lt_of_le_of_lt (Nat.mul_le_mul (show q0 ≤ 4294967295 by omega) (show v0 ≤ 4294967295 by omega)) (by decide)
            have hpw : IntKind.u64.wrap ((q0 : Int) * (v0 : Int)) = (p : Int) := by rw [← Int.natCast_mul, wrap_u64_nat hpl, hp]
            have HP := Lib.hid hp
            clear hp hpl
            by_cases ht : 4294967296 * (r0 : Int) + (d0 : Int) < (p : Int)
            · have HT : Hid (4294967296 * r0 + d0 < q0 * v0) := Lib.hid (by rw [← HP.out]; omega)
              have htd : decide (4294967296 * (r0 : Int) + (d0 : Int) < (p : Int)) = true := decide_eq_true ht
              obtain ⟨q0', hq'⟩ := HC2.out.h2.pos HI2.out (.inr HT.out)
              have hqm : (q0 : Int) - 1 = (q0' : Int) := by omega
              have hq1 : 1 ≤ (q0 : Int) := by omega
              have hqle : (q0' : Int) ≤ 4294967296 := by have := HI2.out.le; omega
              have HQ' := Lib.hid hq'
              clear hq'
              by_cases hr : (r0 : Int) + (v1 : Int) < 4294967296
              · have HI3 := HI2.out.again HC2.out.h2 HQ'.out (.inr HT.out) (by omega)
                have hrd : decide ((r0 : Int) + (v1 : Int) < 4294967296) = true := decide_eq_true hr
                go_wp2_with fail
                go_step3
                exact ⟨⟨rfl, s, g, a, un10, v1, v0, d1, d0, u1, u0, q, b2, q0', r0 + v1, [_, _, _, _, _, _, _, _, _, _, _, _, _, _, _, _, _, _, _, _, _, _, _, _, _, _, _, _, _, _, _, _, _, _, _, _, _, _, _, _, _, _, _, _, _, _, _, _, _, _, _, _, _, _, _, _, _, _, _, _, _, _, _, _, _, _, _, _, _, _, _, _, _, _, _, _, _, _, _, _, _, _, _, _, _, _, _, _, _, _, _, _, _, _, _, _, _, _, _, _, _, _, _, _, _], rfl, HC.out, HC2.out, HI3, hs63⟩, by simp [msDJ, intOf]; omega⟩
              · have hQ := HI2.out.down HC2.out.h2 HQ'.out (.inr HT.out) (by omega)
                have hrd : decide ((r0 : Int) + (v1 : Int) < 4294967296) = false := decide_eq_false hr
                have HQ := Lib.hid hQ
                clear hQ
                go_wp2_with fail
                simp only [jumps]
                go_ret2
                exact HC.out.final HC2.out HQ.out (by first | exact .inl rfl | exact .inr (.inl rfl) | exact .inr (.inr rfl)) rfl
            · have hQ := HI2.out.stay HC2.out.h2 (by omega) (by rw [← HP.out]; omega)
              have htd : decide (4294967296 * (r0 : Int) + (d0 : Int) < (p : Int)) = false := decide_eq_false ht
              have HQ := Lib.hid hQ
              clear hQ
              go_wp2_with fail
              simp only [jumps]
              go_ret2
              exact HC.out.final HC2.out HQ.out (by first | exact .inl rfl | exact .inr (.inl rfl) | exact .inr (.inr rfl)) rfl
    · unfold DJ at hJ
      obtain ⟨rfl, s, g, a, un10, v1, v0, d1, d0, u1, u0, Q1, b2, q, r, L, rfl, HC0, HC20, HI0, hs63⟩ := hJ
      have HC := Lib.hid HC0
      have HC2 := Lib.hid HC20
      have HI := Lib.hid HI0
      have hv1lo := HC0.h1.v1lo
      have hv1hi := HC0.h1.v1hi
      have hv0hi := HC0.h1.v0hi
      have hd0lt := HC0.d0lt
      have hrlt := HI0.rlt
      clear HC0 HI0 HC20
      refine ⟨_, rfl, ?_⟩
      by_cases hq : (4294967296 : Int) ≤ (q : Int)
      · have hqt : decide ((4294967296 : Int) ≤ (q : Int)) = true := decide_eq_true hq
        obtain ⟨q', hq'⟩ := HC2.out.h2.pos HI.out (.inl (by omega))
        have hqm : (q : Int) - 1 = (q' : Int) := by omega
        have hq1 : 1 ≤ (q : Int) := by omega
        have hqle : (q' : Int) ≤ 4294967296 := by have := HI.out.le; omega
        have HQ' := Lib.hid hq'
        clear hq'
        by_cases hr : (r : Int) + (v1 : Int) < 4294967296
        · have HI2 := HI.out.again HC2.out.h2 HQ'.out (.inl (by omega)) (by omega)
          have hrd : decide ((r : Int) + (v1 : Int) < 4294967296) = true := decide_eq_true hr
          go_wp2_with fail
          go_step3
          exact ⟨⟨rfl, s, g, a, un10, v1, v0, d1, d0, u1, u0, Q1, b2, q', r + v1, [_, _, _, _, _, _, _, _, _, _, _, _, _, _, _, _, _, _, _, _, _, _, _, _, _, _, _, _, _, _, _, _, _, _, _, _, _, _, _, _, _, _, _, _, _, _, _, _, _, _, _, _, _, _, _, _, _, _, _, _, _, _, _, _, _, _, _, _, _, _, _, _, _, _, _, _, _, _, _, _, _, _, _, _, _, _, _, _, _, _, _, _, _, _, _, _, _, _, _, _, _, _, _, _, _], rfl, HC.out, HC2.out, HI2, hs63⟩, by simp [msDJ, intOf]; omega⟩
        · have hQ := HI.out.down HC2.out.h2 HQ'.out (.inl (by omega)) (by omega)
          have hrd : decide ((r : Int) + (v1 : Int) < 4294967296) = false := decide_eq_false hr
          have HQ := Lib.hid hQ
          clear hQ
          go_wp2_with fail
          simp only [jumps]
          go_ret2
          exact HC.out.final HC2.out HQ.out (by first | exact .inl rfl | exact .inr (.inl rfl) | exact .inr (.inr rfl)) rfl
      · have hqt : decide ((4294967296 : Int) ≤ (q : Int)) = false := decide_eq_false hq
        obtain ⟨p, hp⟩ : ∃ p : Nat, p = q * v0 := ⟨_, rfl⟩
        have hpl : q * v0 < 18446744073709551616 := Nat.lt_of_le_of_lt (Nat.mul_le_mul (show q ≤ 4294967295 by omega) (show v0 ≤ 4294967295 by omega)) (by decide)
        have hpw : IntKind.u64.wrap ((q : Int) * (v0 : Int)) = (p : Int) := by rw [← Int.natCast_mul, wrap_u64_nat hpl, hp]
        have HP := Lib.hid hp
        clear hp hpl
        by_cases ht : 4294967296 * (r : Int) + (d0 : Int) < (p : Int)
        · have HT : Hid (4294967296 * r + d0 < q * v0) := Lib.hid (by rw [← HP.out]; omega)
          have htd : decide (4294967296 * (r : Int) + (d0 : Int) < (p : Int)) = true := decide_eq_true ht
          obtain ⟨q', hq'⟩ := HC2.out.h2.pos HI.out (.inr HT.out)
          have hqm : (q : Int) - 1 = (q' : Int) := by omega
          have hq1 : 1 ≤ (q : Int) := by omega
          have hqle : (q' : Int) ≤ 4294967296 := by have := HI.out.le; omega
          have HQ' := Lib.hid hq'
          clear hq'
          by_cases hr : (r : Int) + (v1 : Int) < 4294967296
          · have HI2 := HI.out.again HC2.out.h2 HQ'.out (.inr HT.out) (by omega)
            have hrd : decide ((r : Int) + (v1 : Int) < 4294967296) = true := decide_eq_true hr
            go_wp2_with fail
            go_step3
            exact ⟨⟨rfl, s, g, a, un10, v1, v0, d1, d0, u1, u0, Q1, b2, q', r + v1, [_, _, _, _, _, _, _, _, _, _, _, _, _, _, _, _, _, _, _, _, _, _, _, _, _, _, _, _, _, _, _, _, _, _, _, _, _, _, _, _, _, _, _, _, _, _, _, _, _, _, _, _, _, _, _, _, _, _, _, _, _, _, _, _, _, _, _, _, _, _, _, _, _, _, _, _, _, _, _, _, _, _, _, _, _, _, _, _, _, _, _, _, _, _, _, _, _, _, _, _, _, _, _, _, _], rfl, HC.out, HC2.out, HI2, hs63⟩, by simp [msDJ, intOf]; omega⟩
          · have hQ := HI.out.down HC2.out.h2 HQ'.out (.inr HT.out) (by omega)
            have hrd : decide ((r : Int) + (v1 : Int) < 4294967296) = false := decide_eq_false hr
            have HQ := Lib.hid hQ
            clear hQ
            go_wp2_with fail
            simp only [jumps]
            go_ret2
            exact HC.out.final HC2.out HQ.out (by first | exact .inl rfl | exact .inr (.inl rfl) | exact .inr (.inr rfl)) rfl
        · have hQ := HI.out.stay HC2.out.h2 (by omega) (by rw [← HP.out]; omega)
          have htd : decide (4294967296 * (r : Int) + (d0 : Int) < (p : Int)) = false := decide_eq_false ht
          have HQ := Lib.hid hQ
          clear hQ
          go_wp2_with fail
          simp only [jumps]
          go_ret2
          exact HC.out.final HC2.out HQ.out (by first | exact .inl rfl | exact .inr (.inl rfl) | exact .inr (.inr rfl)) rfl
    · exact hJ.elim
end Go.Proofs.Ytpjanmahbimhkaa.SF
