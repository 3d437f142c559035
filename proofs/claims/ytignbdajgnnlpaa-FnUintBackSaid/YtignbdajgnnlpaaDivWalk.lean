/-
  The walk through divlu: a number of 128 bits by one of 64.
-/
import Derived.Test.YtignbdajgnnlpaaDivPlain
import Derived.ScopeJumps
namespace Go.Proofs.Ytignbdajgnnlpaa.SF
open Go.ChangeShapes Go.WideShapes Go.ChangeAt Go.RowKit
set_option linter.unusedVariables false

/-- A scope in which the run jumps back to several labels. -/
def jumps (J : Nat → Act → World → Prop) (Q : Exit → Act → World → Prop) : Exit → Act → World → Prop
  | .goto l, a, w => J l a w
  | e, a, w => Q e a w

theorem wp_scope_labels {P : Program} {a : Act} {w : World} {Q : Exit → Act → World → Prop} {c : Code} (J : Nat → Act → World → Prop) (μ : Nat → Act → World → Nat)
    (first : c.wp P (jumps J Q) a w)
    (pass : ∀ l a w, J l a w → ∃ rest, findLabel c l = some rest ∧ rest.wp P (jumps (fun l' a' w' => J l' a' w' ∧ μ l' a' w' < μ l a w) Q) a w) : (Code.scope c).wp P Q a w := by
  intro b k cs
  have key : ∀ n l a w, μ l a w = n → J l a w → ∀ rest, findLabel c l = some rest → ∃ e a' w', Q e a' w' ∧ Arrives P (lone (b.at a (.code rest :: .inScope c :: k)) cs w) b k cs e a' w' := by
    intro n
    induction n using Nat.strongRecOn with
    | _ n ih =>
      intro l a w hn hJ rest hf
      obtain ⟨rest', hf', hp⟩ := pass l a w hJ
      obtain rfl : rest' = rest := by rw [hf] at hf'; injection hf' with h; exact h.symm
      obtain ⟨e, a₁, w₁, hq, harr⟩ := hp b (.inScope c :: k) cs
      cases e with
      | normal => exact ⟨.normal, a₁, w₁, hq, Steps.trans harr (.one step_inScope)⟩
      | exit id => exact ⟨.exit id, a₁, w₁, hq, fun k' hk => harr k' (by simp [exitTo, hk])⟩
      | goto l' =>
        obtain ⟨hJ', hlt⟩ := hq
        obtain ⟨rest₂, hf₂, _⟩ := pass l' a₁ w₁ hJ'
        have hg : gotoIn l' (.inScope c :: k) = some (.code rest₂ :: .inScope c :: k) := by simp [gotoIn, hf₂]
        obtain ⟨e₂, a₂, w₂, hq₂, harr₂⟩ := ih _ (by omega) l' a₁ w₁ rfl hJ' rest₂ hf₂
        exact ⟨e₂, a₂, w₂, hq₂, .of_steps (harr _ hg) harr₂⟩
      | ret => exact ⟨_, a₁, w₁, hq, harr⟩
      | panic ch => exact ⟨_, a₁, w₁, hq, harr⟩
      | outgrown => exact ⟨_, a₁, w₁, hq, harr⟩
  obtain ⟨e, a₁, w₁, hq, harr⟩ := first b (.inScope c :: k) cs
  cases e with
  | normal => exact ⟨.normal, a₁, w₁, hq, .head step_scope (Steps.trans harr (.one step_inScope))⟩
  | exit id => exact ⟨.exit id, a₁, w₁, hq, fun k' hk => .head step_scope (harr k' (by simp [exitTo, hk]))⟩
  | goto l' =>
    obtain ⟨rest₂, hf₂, _⟩ := pass l' a₁ w₁ hq
    have hg : gotoIn l' (.inScope c :: k) = some (.code rest₂ :: .inScope c :: k) := by simp [gotoIn, hf₂]
    obtain ⟨e₂, a₂, w₂, hq₂, harr₂⟩ := key _ l' a₁ w₁ rfl hq rest₂ hf₂
    exact ⟨e₂, a₂, w₂, hq₂, .of_steps (.head step_scope (harr _ hg)) harr₂⟩
  | ret => exact ⟨_, a₁, w₁, hq, .of_steps (.one step_scope) harr⟩
  | panic ch => exact ⟨_, a₁, w₁, hq, .of_steps (.one step_scope) harr⟩
  | outgrown => exact ⟨_, a₁, w₁, hq, .of_steps (.one step_scope) harr⟩

def NL (v : Nat) (a b : Value) : Prop := ∃ s : Nat, a = .int .u64 ((v * 2 ^ s : Nat) : Int) ∧ b = .int .u64 (s : Int) ∧ v * 2 ^ s < 18446744073709551616 ∧ s ≤ 63
def msNL (a : Value) : Nat := 9223372036854775808 - (intOf a).toNat

/-- What is known of the numbers of the division, once for all. -/
structure DC (N v s g a un10 v1 v0 d1 d0 : Nat) : Prop where
  vpos : 0 < v
  hg : v * 2 ^ s = g
  gparts : g = v1 * 4294967296 + v0
  hU : N * 2 ^ s = a * 18446744073709551616 + un10
  hd : un10 = d1 * 4294967296 + d0
  h1 : DV a d1 v1 v0
  d0lt : d0 < 4294967296
  glt : g < 18446744073709551616

structure DC2 (g a v1 v0 d1 d0 Q1 b2 : Nat) : Prop where
  hQ1 : Q1 = (a * 4294967296 + d1) / g
  hb2 : b2 = (a * 4294967296 + d1) % g
  h2 : DV b2 d0 v1 v0
  qlt : Q1 < 4294967296

def DivPost (N v : Nat) (w : World) : Ending → World → Prop := fun e w' => e = .returned (.tuple #[.int .u64 ((N / v : Nat) : Int), .int .u64 ((N % v : Nat) : Int)]) ∧ w = w'

theorem DC.second {N v s g a un10 v1 v0 d1 d0 Q1 : Nat} (h : DC N v s g a un10 v1 v0 d1 d0) (hQ : Q1 = (a * 4294967296 + d1) / (v1 * 4294967296 + v0)) :
    ∃ b2, DC2 g a v1 v0 d1 d0 Q1 b2 ∧ IntKind.u64.wrap (IntKind.u64.wrap (IntKind.u64.wrap ((a : Int) * 4294967296) + (d1 : Int)) - IntKind.u64.wrap ((Q1 : Int) * (g : Int))) = (b2 : Int) := by
  have hgp := h.gparts
  have hgpos : 0 < g := by rw [hgp]; have := h.h1.v1lo; omega
  have hglt := h.glt
  rw [← hgp] at hQ
  have hm := Nat.mod_lt (a * 4294967296 + d1) hgpos
  have hdm := Nat.div_add_mod (a * 4294967296 + d1) g
  rw [← hQ] at hdm
  refine ⟨(a * 4294967296 + d1) % g, ⟨hQ, rfl, ⟨h.h1.v1lo, h.h1.v1hi, h.h1.v0hi, by rw [← hgp]; exact hm, h.d0lt⟩, ?_⟩, sub_wrap hdm (by omega)⟩
  rw [hQ, Nat.div_lt_iff_lt_mul hgpos]
  have := h.h1.alt
  have := h.h1.dlt
  rw [← hgp] at *
  omega

theorem DC.final {N v s g a un10 v1 v0 d1 d0 Q1 b2 Q0 : Nat} {w : World} (h : DC N v s g a un10 v1 v0 d1 d0) (h2 : DC2 g a v1 v0 d1 d0 Q1 b2) (hQ : Q0 = (b2 * 4294967296 + d0) / (v1 * 4294967296 + v0)) {X Y : Int}
    (hX : X = IntKind.u64.wrap (IntKind.u64.wrap ((Q1 : Int) * 4294967296) + (Q0 : Int)) ∨ X = IntKind.u64.wrap ((Q1 : Int) * 4294967296 + (Q0 : Int)) ∨ X = (Q1 : Int) * 4294967296 + (Q0 : Int))
    (hY : Y = IntKind.u64.wrap (IntKind.u64.wrap (IntKind.u64.wrap ((b2 : Int) * 4294967296) + (d0 : Int)) - IntKind.u64.wrap ((Q0 : Int) * (g : Int))) / 2 ^ s) :
    DivPost N v w (.returned (.tuple #[.int .u64 X, .int .u64 Y])) w := by
  have hgp := h.gparts
  have hgpos : 0 < g := by rw [hgp]; have := h.h1.v1lo; omega
  have hglt := h.glt
  rw [← hgp] at hQ
  have hm := Nat.mod_lt (b2 * 4294967296 + d0) hgpos
  have hdm := Nat.div_add_mod (b2 * 4294967296 + d0) g
  rw [← hQ] at hdm
  have hw := sub_wrap hdm (by omega)
  obtain ⟨t1, t2⟩ := two_digits h.hg h.vpos h.hU h.hd h2.hQ1 h2.hb2 hQ
  have hq0 : Q0 < 4294967296 := by
    rw [hQ, Nat.div_lt_iff_lt_mul hgpos]
    have := h2.h2.alt
    have := h2.h2.dlt
    rw [← hgp] at *
    omega
  have hq1 := h2.qlt
  have eX : X = ((N / v : Nat) : Int) := by
    rw [← t1]
    rcases hX with rfl | rfl | rfl
    · rw [IntKind.wrap_u64, IntKind.wrap_u64]; omega
    · rw [IntKind.wrap_u64]; omega
    · omega
  have eY : Y = ((N % v : Nat) : Int) := by
    rw [hY, hw, ← t2]; simp
  rw [eX, eY]
  exact ⟨rfl, rfl⟩

def mkU (L : List Value) (i : Nat) : Value := L.getD i undef

def DJ (N v : Nat) (w0 : World) : Nat → Act → World → Prop
  | 0, a', w' => w0 = w' ∧ ∃ (s g a un10 v1 v0 d1 d0 u1 u0 q r : Nat) (L : List Value), a' = { tmps := #[.int .u64 (u1 : Int), .int .u64 (u0 : Int), .int .u64 (g : Int), undef, undef, undef, .int .u64 0, .int .u64 0, .int .u64 (s : Int), .int .u64 (v1 : Int), .int .u64 (v0 : Int), .int .u64 (a : Int), .int .u64 (un10 : Int), .int .u64 (d1 : Int), .int .u64 (d0 : Int), .int .u64 (q : Int), .int .u64 (r : Int), mkU L 0, mkU L 1, mkU L 2, mkU L 3, mkU L 4, mkU L 5, mkU L 6, mkU L 7, mkU L 8, mkU L 9, mkU L 10, mkU L 11, mkU L 12, mkU L 13, mkU L 14, mkU L 15, mkU L 16, mkU L 17, mkU L 18, mkU L 19, mkU L 20, mkU L 21, mkU L 22, mkU L 23, mkU L 24, mkU L 25, mkU L 26, mkU L 27, mkU L 28, mkU L 29, mkU L 30, mkU L 31, mkU L 32, mkU L 33, mkU L 34, mkU L 35, mkU L 36, mkU L 37, mkU L 38, mkU L 39, mkU L 40, mkU L 41, mkU L 42, mkU L 43, mkU L 44, mkU L 45, mkU L 46, mkU L 47, mkU L 48, mkU L 49, mkU L 50, mkU L 51, mkU L 52, mkU L 53, mkU L 54, mkU L 55, mkU L 56, mkU L 57, mkU L 58, mkU L 59, mkU L 60, mkU L 61, mkU L 62, mkU L 63, mkU L 64, mkU L 65, mkU L 66, mkU L 67, mkU L 68, mkU L 69, mkU L 70, mkU L 71, mkU L 72, mkU L 73, mkU L 74, mkU L 75, mkU L 76, mkU L 77, mkU L 78, mkU L 79, mkU L 80, mkU L 81, mkU L 82, mkU L 83, mkU L 84, mkU L 85, mkU L 86, mkU L 87, mkU L 88, mkU L 89, mkU L 90, mkU L 91, mkU L 92, mkU L 93, mkU L 94, mkU L 95, mkU L 96, mkU L 97, mkU L 98, mkU L 99, mkU L 100, mkU L 101, mkU L 102, mkU L 103, mkU L 104, mkU L 105, mkU L 106], defers := [] } ∧ DC N v s g a un10 v1 v0 d1 d0 ∧ DI a d1 v1 v0 q r ∧ s ≤ 63
  | 1, a', w' => w0 = w' ∧ ∃ (s g a un10 v1 v0 d1 d0 u1 u0 Q1 b2 q r : Nat) (L : List Value), a' = { tmps := #[.int .u64 (u1 : Int), .int .u64 (u0 : Int), .int .u64 (g : Int), undef, undef, undef, .int .u64 0, .int .u64 0, .int .u64 (s : Int), .int .u64 (v1 : Int), .int .u64 (v0 : Int), .int .u64 (a : Int), .int .u64 (un10 : Int), .int .u64 (d1 : Int), .int .u64 (d0 : Int), .int .u64 (Q1 : Int), .int .u64 (r : Int), .int .u64 (b2 : Int), .int .u64 (q : Int), mkU L 0, mkU L 1, mkU L 2, mkU L 3, mkU L 4, mkU L 5, mkU L 6, mkU L 7, mkU L 8, mkU L 9, mkU L 10, mkU L 11, mkU L 12, mkU L 13, mkU L 14, mkU L 15, mkU L 16, mkU L 17, mkU L 18, mkU L 19, mkU L 20, mkU L 21, mkU L 22, mkU L 23, mkU L 24, mkU L 25, mkU L 26, mkU L 27, mkU L 28, mkU L 29, mkU L 30, mkU L 31, mkU L 32, mkU L 33, mkU L 34, mkU L 35, mkU L 36, mkU L 37, mkU L 38, mkU L 39, mkU L 40, mkU L 41, mkU L 42, mkU L 43, mkU L 44, mkU L 45, mkU L 46, mkU L 47, mkU L 48, mkU L 49, mkU L 50, mkU L 51, mkU L 52, mkU L 53, mkU L 54, mkU L 55, mkU L 56, mkU L 57, mkU L 58, mkU L 59, mkU L 60, mkU L 61, mkU L 62, mkU L 63, mkU L 64, mkU L 65, mkU L 66, mkU L 67, mkU L 68, mkU L 69, mkU L 70, mkU L 71, mkU L 72, mkU L 73, mkU L 74, mkU L 75, mkU L 76, mkU L 77, mkU L 78, mkU L 79, mkU L 80, mkU L 81, mkU L 82, mkU L 83, mkU L 84, mkU L 85, mkU L 86, mkU L 87, mkU L 88, mkU L 89, mkU L 90, mkU L 91, mkU L 92, mkU L 93, mkU L 94, mkU L 95, mkU L 96, mkU L 97, mkU L 98, mkU L 99, mkU L 100, mkU L 101, mkU L 102, mkU L 103, mkU L 104], defers := [] } ∧ DC N v s g a un10 v1 v0 d1 d0 ∧ DC2 g a v1 v0 d1 d0 Q1 b2 ∧ DI b2 d0 v1 v0 q r ∧ s ≤ 63
  | _, _, _ => False

def msDJ (l : Nat) (a : Act) (_ : World) : Nat := if l = 0 then (intOf (a.tmps.getD 15 undef)).toNat + 4294967299 else (intOf (a.tmps.getD 18 undef)).toNat

theorem bit63 {g : Nat} (hg : g < 18446744073709551616) : (bits .and .u64 (g : Int) 9223372036854775808 = 0) ↔ g < 9223372036854775808 := by
  rw [unp_and164 hg]
  unfold sb64
  omega

theorem DC.mk' {u1 u0 v s g a un10 : Nat} (h1 : u1 < v) (hg : v * 2 ^ s = g) (hgl : g < 18446744073709551616) (hge : 9223372036854775808 ≤ g)
    (hU : (u1 * 18446744073709551616 + u0) * 2 ^ s = a * 18446744073709551616 + un10) (hun : un10 < 18446744073709551616) (ha : a < g) :
    DC (u1 * 18446744073709551616 + u0) v s g a un10 (g / 4294967296) (g % 4294967296) (un10 / 4294967296) (un10 % 4294967296) :=
  ⟨by omega, hg, by omega, hU, by omega, ⟨by omega, by omega, by omega, by omega, by omega⟩, by omega, hgl⟩

theorem quo_rule {a v1 : Nat} (h : v1 < 4294967296) (h0 : 0 < v1) (ha : a < 18446744073709551616) : IntKind.u64.wrap ((a : Int) / (v1 : Int)) = ((a / v1 : Nat) : Int) ∧ IntKind.u64.wrap ((a : Int) - IntKind.u64.wrap (((a / v1 : Nat) : Int) * (v1 : Int))) = ((a % v1 : Nat) : Int) := by
  have hd := Nat.div_add_mod a v1
  have hle : a / v1 ≤ a := Nat.div_le_self _ _
  have e1 : (a : Int) / (v1 : Int) = ((a / v1 : Nat) : Int) := by simp
  constructor
  · rw [e1, wrap_u64_nat (by omega)]
  · rw [← Int.natCast_mul, Nat.mul_comm]
    generalize v1 * (a / v1) = X at *
    rw [IntKind.wrap_u64, IntKind.wrap_u64]
    omega
end Go.Proofs.Ytignbdajgnnlpaa.SF
