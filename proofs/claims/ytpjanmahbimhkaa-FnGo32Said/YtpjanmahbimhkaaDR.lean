/-
  Plain mathematics: sums, products and quotients of 32 bits by way of 64 bits are rounded as if once.
-/
import Derived.Test.YtpjanmahbimhkaaAlg
namespace Go.Proofs.Ytpjanmahbimhkaa.SF
open Go.RowKit
set_option linter.unusedVariables false

/-- how far a number is from its nearest rung -/
theorem rnd_dist {F A B m e : Nat} (h : IsRnd F A B m) (hv : val F m < 2 ^ (F + 1 + e)) : 2 * A ≤ 2 * (val F m * B) + 2 ^ e * B ∧ 2 * (val F m * B) ≤ 2 * A + 2 ^ e * B := by
  obtain ⟨k, n, rfl, hk, hn⟩ := decomp F m
  have v0 := val_of F k n hk (by omega)
  have v1 := val_succ_of F k n hk hn
  have hke : 2 ^ k ≤ 2 ^ e := by
    refine Nat.pow_le_pow_right (by omega) ?_
    rcases hk with h0 | h0
    · omega
    · have h1 : 2 ^ F * 2 ^ k ≤ n * 2 ^ k := Nat.mul_le_mul_right _ h0
      rw [v0] at hv
      have h2 : 2 ^ (F + k) < 2 ^ (F + 1 + e) := by rw [Nat.pow_add]; omega
      have := (Nat.pow_lt_pow_iff_right (a := 2) (by omega)).mp h2
      omega
  have hkB : 2 ^ k * B ≤ 2 ^ e * B := Nat.mul_le_mul_right _ hke
  have hp := two_pow_pos k
  obtain ⟨g1, g2, g3⟩ := h
  constructor
  · rw [v0, v1] at g2
    rw [v0]
    have e1 : (n * 2 ^ k + (n + 1) * 2 ^ k) * B = 2 * (n * 2 ^ k * B) + 2 ^ k * B := by rw [Nat.add_mul, Nat.add_mul n 1, Nat.add_mul, Nat.one_mul]; omega
    omega
  · rcases Nat.eq_zero_or_pos (k * 2 ^ F + n) with h0 | h0
    · rw [h0, val_zero]; omega
    · obtain ⟨c, hc⟩ : ∃ c, k * 2 ^ F + n = c + 1 := ⟨k * 2 ^ F + n - 1, by omega⟩
      have g := (g1 c hc).1
      -- the rung below lies at most one unit lower
      have hlow : val F (k * 2 ^ F + n) ≤ val F c + 2 ^ k := by
        rw [v0]
        rcases Nat.lt_or_ge (2 ^ F) n with h1 | h1
        · obtain ⟨m', rfl⟩ : ∃ m', n = m' + 1 := ⟨n - 1, by omega⟩
          have : c = k * 2 ^ F + m' := by omega
          rw [this, val_of F k m' (by omega) (by omega), Nat.add_mul]; omega
        · rcases Nat.eq_zero_or_pos k with hk0 | hk0
          · subst hk0
            have h2 : c + 1 = n := by omega
            rw [Nat.pow_zero, Nat.mul_one, ← h2]
            have := val_of F 0 c (.inl rfl) (by omega)
            rw [Nat.zero_mul, Nat.zero_add, Nat.pow_zero, Nat.mul_one] at this
            omega
          · have h2 : n = 2 ^ F := by omega
            obtain ⟨k', rfl⟩ : ∃ k', k = k' + 1 := ⟨k - 1, by omega⟩
            have hpF := two_pow_pos F
            have h3 : c = k' * 2 ^ F + (2 ^ F + (2 ^ F - 1)) := by
              rw [Nat.add_mul, Nat.one_mul] at hc; omega
            rw [h3, val_of F k' (2 ^ F + (2 ^ F - 1)) (.inr (by omega)) (by rw [pow_succ2]; omega), h2, pow_succ2]
            have e2 : (2 ^ F + (2 ^ F - 1)) * 2 ^ k' + 2 ^ k' = 2 ^ F * (2 * 2 ^ k') := by
              rw [show (2 ^ F + (2 ^ F - 1)) * 2 ^ k' + 2 ^ k' = (2 ^ F + (2 ^ F - 1) + 1) * 2 ^ k' by rw [Nat.add_mul _ 1, Nat.one_mul], show 2 ^ F + (2 ^ F - 1) + 1 = 2 ^ F * 2 by omega, Nat.mul_assoc]
            omega
      have hl2 : val F (k * 2 ^ F + n) * B ≤ val F c * B + 2 ^ k * B := by rw [← Nat.add_mul]; exact Nat.mul_le_mul_right _ hlow
      rw [Nat.add_mul] at g
      omega

/-- What is rounded to 53 digits and then to 24 is rounded to 24 digits, if no number but a midpoint itself is rounded to a midpoint. Q: half of what the smallest number of 32 bits is in units of 64 bits. -/
theorem dr {A B Q : Nat} (hB : 0 < B) (hQ : 0 < Q) (hrep : ∀ n k : Nat, n < 2 ^ 24 → ∃ m, val 52 m = (2 * n + 1) * (2 ^ k * Q))
    (H : ∀ n k m : Nat, n < 2 ^ 24 → (k = 0 ∨ 2 ^ 23 ≤ n) → val 52 m = (2 * n + 1) * (2 ^ k * Q) → rn 52 A B = m → A = val 52 m * B) :
    rn 23 (val 52 (rn 52 A B)) (2 * Q) = rn 23 A (B * (2 * Q)) := by
  have hBB : 0 < B * (2 * Q) := Nat.mul_pos hB (by omega)
  have hc := rn_spec (F := 23) (by omega) A (B * (2 * Q)) hBB
  generalize rn 23 A (B * (2 * Q)) = c at hc ⊢
  have hr : ∀ m, (val 52 m * B ≤ A → val 52 m ≤ val 52 (rn 52 A B)) ∧ (A ≤ val 52 m * B → val 52 (rn 52 A B) ≤ val 52 m) := fun m => ⟨fun h => val_le 52 (rn_ge (by omega) hB h), fun h => val_le 52 (rn_le (by omega) hB h)⟩
  have key : ∀ d : Nat, ∃ m : Nat, (val 23 d + val 23 (d + 1)) * (2 * Q) = 2 * val 52 m ∧ (rn 52 A B = m → A = val 52 m * B) := by
    intro d
    obtain ⟨k, n, rfl, hk, hn⟩ := decomp 23 d
    obtain ⟨m, hm⟩ := hrep n k hn
    refine ⟨m, ?_, H n k m hn hk hm⟩
    rw [val_of 23 k n hk (by omega), val_succ_of 23 k n hk hn, hm]
    generalize 2 ^ k = p
    have e1 : n * p + (n + 1) * p = (2 * n + 1) * p := by
      rw [← Nat.add_mul, show n + (n + 1) = 2 * n + 1 by omega]
    rw [e1]
    ac_rfl
  refine IsRnd.rn ⟨?_, ?_⟩ (by omega)
  · intro d hd
    obtain ⟨m, e1, e2⟩ := key d
    subst hd
    obtain ⟨g1, g2⟩ := hc.1 d rfl
    have e3 : (val 23 d + val 23 (d + 1)) * (B * (2 * Q)) = 2 * (val 52 m * B) := by
      rw [Nat.mul_comm B, ← Nat.mul_assoc, e1, Nat.mul_assoc]
    rw [e3] at g1 g2
    have h1 := (hr m).1 (by omega)
    rw [e1]
    refine ⟨by omega, fun he => g2 ?_⟩
    have h2 : rn 52 A B = m := val_inj 52 (by omega)
    have := e2 h2
    omega
  · obtain ⟨m, e1, e2⟩ := key c
    obtain ⟨g1, g2⟩ := hc.2
    have e3 : (val 23 c + val 23 (c + 1)) * (B * (2 * Q)) = 2 * (val 52 m * B) := by
      rw [Nat.mul_comm B, ← Nat.mul_assoc, e1, Nat.mul_assoc]
    rw [e3] at g1 g2
    have h1 := (hr m).2 (by omega)
    rw [e1]
    refine ⟨by omega, fun he => g2 ?_⟩
    have h2 : rn 52 A B = m := val_inj 52 (by omega)
    have := e2 h2
    omega

/-- with Q = 2^(e+28): a midpoint, and how near to it a number must be to be rounded to it -/
theorem dr_rep (e n k : Nat) (hn : n < 2 ^ 24) : ∃ m, val 52 m = (2 * n + 1) * (2 ^ k * 2 ^ (e + 28)) := by
  obtain ⟨m, hm⟩ := rep_val 52 (k + (e + 28)) (2 * n + 1) (by omega)
  exact ⟨m, by rw [hm, Nat.pow_add]⟩
theorem dr_dist {A B e n k m : Nat} (hB : 0 < B) (hn : n < 2 ^ 24) (hm : val 52 m = (2 * n + 1) * (2 ^ k * 2 ^ (e + 28))) (hr : rn 52 A B = m) :
    2 * A ≤ 2 * (val 52 m * B) + 2 ^ (k + e) * B ∧ 2 * (val 52 m * B) ≤ 2 * A + 2 ^ (k + e) * B := by
  have h := rn_spec (F := 52) (by omega) A B hB
  rw [hr] at h
  refine rnd_dist h ?_
  rw [hm]
  have e1 : 2 ^ (52 + 1 + (k + e)) = 33554432 * (2 ^ k * 2 ^ (e + 28)) := by
    rw [← Nat.pow_add, show (33554432 : Nat) = 2 ^ 25 from rfl, ← Nat.pow_add, show 52 + 1 + (k + e) = 25 + (k + (e + 28)) by omega]
  rw [e1]
  exact Nat.mul_lt_mul_of_pos_right (by omega) (Nat.mul_pos (two_pow_pos _) (two_pow_pos _))

theorem le_mul1 {p q : Int} (h : 1 ≤ q) (hp : 0 ≤ p) : p ≤ q * p := by
  have := Int.mul_le_mul_of_nonneg_right h hp
  rwa [Int.one_mul] at this

/-- the plain heart of sums -/
theorem dr_add_core {X Y : Int} {a b ex ey : Nat} {c d : Int} (hX : X = c * 2 ^ ex) (hY : Y = d * 2 ^ ey) (ha : c.natAbs < 16777216) (hb : d.natAbs < 16777216) {n j : Nat} (hn : 8388608 ≤ n) (h0 : 0 ≤ X + Y) (hXY : Y.natAbs ≤ X.natAbs)
    (h : 536870912 * (X + Y - (2 * n + 1) * 2 ^ j).natAbs ≤ 2 ^ j) : X + Y = (2 * n + 1) * 2 ^ j := by
  have hj : (0 : Int) < 2 ^ j := Int.pow_pos (by omega)
  have cj : ((2 ^ j : Nat) : Int) = 2 ^ j := by simp
  have hn2 : (16777217 : Int) * 2 ^ j ≤ (2 * n + 1) * 2 ^ j := Int.mul_le_mul_of_nonneg_right (by omega) (by omega)
  -- X is a multiple of 2^j
  have hXp : 16777216 * 2 ^ j ≤ 2 * X := by
    have e : (16777217 : Int) * 2 ^ j = 16777216 * 2 ^ j + 2 ^ j := by omega
    omega
  have hex : j ≤ ex := by
    rcases Nat.lt_or_ge ex j with h1 | h1
    · exfalso
      obtain ⟨r, rfl⟩ : ∃ r, j = ex + 1 + r := ⟨j - ex - 1, by omega⟩
      have hp : (0 : Int) < 2 ^ ex := Int.pow_pos (by omega)
      have hr1 : (1 : Int) ≤ 2 ^ r := Int.add_one_le_of_lt (Int.pow_pos (by omega))
      have e : (2 : Int) ^ (ex + 1 + r) = 2 * 2 ^ r * 2 ^ ex := by rw [Int.pow_add, Int.pow_add]; rw [Int.pow_one]; rw [Int.mul_assoc, Int.mul_comm]
      rw [e, hX] at hXp
      have h2 : (16777216 : Int) * (2 * 2 ^ r * 2 ^ ex) = (33554432 * 2 ^ r) * 2 ^ ex := by rw [← Int.mul_assoc]; congr 1; omega
      rw [h2, ← Int.mul_assoc] at hXp
      have h3 := Int.le_of_mul_le_mul_right hXp hp
      omega
    · exact h1
  obtain ⟨r, rfl⟩ : ∃ r, ex = j + r := ⟨ex - j, by omega⟩
  have hXj : X = (c * 2 ^ r) * 2 ^ j := by rw [hX, Int.pow_add]; rw [Int.mul_comm (2 ^ j), Int.mul_assoc]
  have hYd : Y = (2 * n + 1 - c * 2 ^ r) * 2 ^ j + (X + Y - (2 * n + 1) * 2 ^ j) := by rw [Int.sub_mul]; omega
  generalize hδ : X + Y - (2 * n + 1) * 2 ^ j = δ at *
  suffices hz : δ = 0 by omega
  by_cases hb0 : 2 * (n : Int) + 1 - c * 2 ^ r = 0
  · exfalso
    rcases Nat.eq_zero_or_pos r with hr | hr
    · subst hr; rw [Int.pow_zero, Int.mul_one] at hb0; omega
    · obtain ⟨r', rfl⟩ : ∃ r', r = r' + 1 := ⟨r - 1, by omega⟩
      rw [Int.pow_succ, ← Int.mul_assoc] at hb0
      omega
  · generalize hbd : 2 * (n : Int) + 1 - c * 2 ^ r = β at *
    -- Y is not small
    have hYb : 2 ^ j ≤ 2 * (Y.natAbs : Int) := by
      have h1 : (2 : Int) ^ j ≤ (β * 2 ^ j).natAbs := by
        rw [Int.natAbs_mul, Int.natCast_mul]
        have : ((2 ^ j : Int).natAbs : Int) = 2 ^ j := by omega
        rw [this]
        exact le_mul1 (by omega) (by omega)
      omega
    rcases Nat.lt_or_ge ey j with he | he
    · obtain ⟨s, rfl⟩ : ∃ s, j = ey + s := ⟨j - ey, by omega⟩
      have hp : (0 : Int) < 2 ^ ey := Int.pow_pos (by omega)
      have e : (2 : Int) ^ (ey + s) = 2 ^ s * 2 ^ ey := by rw [Int.pow_add, Int.mul_comm]
      have cey : ((2 ^ ey : Int).natAbs : Int) = 2 ^ ey := by omega
      have hY2 : (Y.natAbs : Int) = d.natAbs * 2 ^ ey := by rw [hY, Int.natAbs_mul, Int.natCast_mul, cey]
      rw [e, hY2, ← Int.mul_assoc] at hYb
      have h3 := Int.le_of_mul_le_mul_right hYb hp
      have hdl : δ = (d - β * 2 ^ s) * 2 ^ ey := by rw [Int.sub_mul, ← hY, Int.mul_assoc, ← e]; omega
      generalize hg : d - β * 2 ^ s = γ at hdl
      by_cases hγ : γ = 0
      · rw [hdl, hγ, Int.zero_mul]
      · exfalso
        have h4 : (2 : Int) ^ ey ≤ δ.natAbs := by
          rw [hdl, Int.natAbs_mul, Int.natCast_mul, cey]
          exact le_mul1 (by omega) (by omega)
        have h5 : (536870912 : Int) * 2 ^ ey ≤ 2 ^ s * 2 ^ ey := by rw [← e]; omega
        have h6 := Int.le_of_mul_le_mul_right h5 hp
        omega
    · obtain ⟨s, rfl⟩ : ∃ s, ey = j + s := ⟨ey - j, by omega⟩
      have hdl : δ = (d * 2 ^ s - β) * 2 ^ j := by
        rw [Int.sub_mul, Int.mul_assoc, Int.mul_comm (2 ^ s), ← Int.pow_add, ← hY]; omega
      generalize hg : d * 2 ^ s - β = γ at hdl
      by_cases hγ : γ = 0
      · rw [hdl, hγ, Int.zero_mul]
      · exfalso
        have h4 : (2 : Int) ^ j ≤ δ.natAbs := by
          rw [hdl, Int.natAbs_mul, Int.natCast_mul]
          have : ((2 ^ j : Int).natAbs : Int) = 2 ^ j := by omega
          rw [this]
          exact le_mul1 (by omega) (by omega)
        omega
end Go.Proofs.Ytpjanmahbimhkaa.SF
