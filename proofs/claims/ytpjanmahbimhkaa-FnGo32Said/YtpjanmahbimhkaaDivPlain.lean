/-
  Plain mathematics: one digit of a long division to the base 2 to the power of 32.
-/
import Derived.Test.YtpjanmahbimhkaaMul
namespace Go.Proofs.Ytpjanmahbimhkaa.SF
open Go.RowKit
set_option linter.unusedVariables false

structure DV (a d v1 v0 : Nat) : Prop where
  v1lo : 2147483648 ≤ v1
  v1hi : v1 < 4294967296
  v0hi : v0 < 4294967296
  alt : a < v1 * 4294967296 + v0
  dlt : d < 4294967296

structure DI (a d v1 v0 q r : Nat) : Prop where
  eq : q * v1 + r = a
  rlt : r < 4294967296
  ge : (a * 4294967296 + d) / (v1 * 4294967296 + v0) ≤ q
  le : q ≤ 4294967297

theorem mul_V (q v1 v0 : Nat) : q * (v1 * 4294967296 + v0) = q * v1 * 4294967296 + q * v0 := by
  rw [Nat.mul_add, Nat.mul_assoc]

theorem DI.start {a d v1 v0 : Nat} (h : DV a d v1 v0) : DI a d v1 v0 (a / v1) (a % v1) := by
  have hv := h.v1lo
  have hv' := h.v1hi
  have h0 := h.v0hi
  have ha := h.alt
  have hd := h.dlt
  have hdm := Nat.div_add_mod a v1
  have hml := Nat.mod_lt a (show v1 > 0 by omega)
  have hV : 0 < v1 * 4294967296 + v0 := by omega
  refine ⟨by rw [Nat.mul_comm]; exact hdm, by omega, ?_, ?_⟩
  · have hq := Nat.div_mul_le_self (a * 4294967296 + d) (v1 * 4294967296 + v0)
    rw [mul_V] at hq
    generalize (a * 4294967296 + d) / (v1 * 4294967296 + v0) = Q at *
    have : Q * v1 ≤ a := by omega
    exact (Nat.le_div_iff_mul_le (by omega)).mpr this
  · have : a / v1 < 4294967298 := by
      rw [Nat.div_lt_iff_lt_mul (by omega)]
      omega
    omega

theorem DI.lt {a d v1 v0 q r : Nat} (h : DV a d v1 v0) (hi : DI a d v1 v0 q r) (ht : 4294967296 ≤ q ∨ 4294967296 * r + d < q * v0) : (a * 4294967296 + d) / (v1 * 4294967296 + v0) < q := by
  have hv := h.v1lo
  have ha := h.alt
  have hd := h.dlt
  have he := hi.eq
  have hV : 0 < v1 * 4294967296 + v0 := by omega
  rcases ht with ht | ht
  · refine Nat.lt_of_lt_of_le ?_ ht
    rw [Nat.div_lt_iff_lt_mul hV]
    omega
  · rw [Nat.div_lt_iff_lt_mul hV, mul_V]
    omega

theorem DI.again {a d v1 v0 p q r : Nat} (h : DV a d v1 v0) (hi : DI a d v1 v0 p r) (ep : p = q + 1) (ht : 4294967296 ≤ p ∨ 4294967296 * r + d < p * v0) (hr : r + v1 < 4294967296) : DI a d v1 v0 q (r + v1) := by
  subst ep
  have h1 := hi.lt h ht
  have he := hi.eq
  have hl := hi.le
  rw [Nat.add_mul, Nat.one_mul] at he
  exact ⟨by omega, hr, by omega, by omega⟩

theorem DI.down {a d v1 v0 p q r : Nat} (h : DV a d v1 v0) (hi : DI a d v1 v0 p r) (ep : p = q + 1) (ht : 4294967296 ≤ p ∨ 4294967296 * r + d < p * v0) (hr : ¬ r + v1 < 4294967296) : q = (a * 4294967296 + d) / (v1 * 4294967296 + v0) := by
  subst ep
  have h1 := hi.lt h ht
  have he := hi.eq
  have hl := hi.le
  have hv := h.v1lo
  have h0 := h.v0hi
  rw [Nat.add_mul, Nat.one_mul] at he
  have hV : 0 < v1 * 4294967296 + v0 := by omega
  have h2 : q ≤ (a * 4294967296 + d) / (v1 * 4294967296 + v0) := by
    rw [Nat.le_div_iff_mul_le hV, mul_V]
    have h3 : q * v0 ≤ 4294967296 * 4294967295 := Nat.mul_le_mul (by omega) (by omega)
    omega
  omega

theorem DI.stay {a d v1 v0 q r : Nat} (h : DV a d v1 v0) (hi : DI a d v1 v0 q r) (h1 : q < 4294967296) (h2 : ¬ 4294967296 * r + d < q * v0) : q = (a * 4294967296 + d) / (v1 * 4294967296 + v0) := by
  have he := hi.eq
  have hg := hi.ge
  have hv := h.v1lo
  have hV : 0 < v1 * 4294967296 + v0 := by omega
  have h2 : q ≤ (a * 4294967296 + d) / (v1 * 4294967296 + v0) := by
    rw [Nat.le_div_iff_mul_le hV, mul_V]
    omega
  omega

theorem DV.pos {a d v1 v0 q r : Nat} (h : DV a d v1 v0) (hi : DI a d v1 v0 q r) (ht : 4294967296 ≤ q ∨ 4294967296 * r + d < q * v0) : ∃ q', q = q' + 1 := by
  have := Nat.lt_of_le_of_lt (Nat.zero_le _) (hi.lt h ht)
  exact ⟨q - 1, by omega⟩

/-- The whole: two digits. -/
theorem two_digits {N v s g a un10 d1 d0 Q1 b2 Q0 : Nat} (hg : v * 2 ^ s = g) (hv : 0 < v) (hU : N * 2 ^ s = a * 18446744073709551616 + un10) (hd : un10 = d1 * 4294967296 + d0)
    (h1 : Q1 = (a * 4294967296 + d1) / g) (h2 : b2 = (a * 4294967296 + d1) % g) (h3 : Q0 = (b2 * 4294967296 + d0) / g) :
    Q1 * 4294967296 + Q0 = N / v ∧ (b2 * 4294967296 + d0) % g / 2 ^ s = N % v := by
  have hp := two_pow_pos s
  have hgp : 0 < g := by rw [← hg]; exact Nat.mul_pos hv hp
  have e1 := Nat.div_add_mod (a * 4294967296 + d1) g
  have e2 := Nat.div_add_mod (b2 * 4294967296 + d0) g
  have hm := Nat.mod_lt (b2 * 4294967296 + d0) hgp
  rw [← h1, ← h2] at e1
  rw [← h3] at e2
  obtain ⟨R, hRd⟩ : ∃ R, (b2 * 4294967296 + d0) % g = R := ⟨_, rfl⟩
  rw [hRd] at e2 hm ⊢
  have hUV : N * 2 ^ s = g * (Q1 * 4294967296 + Q0) + R := by
    rw [Nat.mul_add g (Q1 * 4294967296) Q0, ← Nat.mul_assoc g Q1 4294967296, hU, hd]
    clear h1 h2 h3 hRd hU hg hgp hp hm
    generalize g * Q1 = X at *
    generalize g * Q0 = Y at *
    omega
  have q1 : N * 2 ^ s / g = Q1 * 4294967296 + Q0 := by
    rw [hUV, Nat.mul_add_div hgp, Nat.div_eq_of_lt hm]; omega
  have r1 : N * 2 ^ s % g = R := by
    rw [hUV, Nat.mul_add_mod, Nat.mod_eq_of_lt hm]
  rw [← hg] at q1 r1
  rw [Nat.mul_div_mul_right _ _ hp] at q1
  rw [Nat.mul_mod_mul_right] at r1
  exact ⟨q1.symm, by rw [← r1, Nat.mul_div_cancel _ hp]⟩

/-- what is left over, reckoned with 64 bits alone -/
theorem sub_wrap {a d q g R : Nat} (he : g * q + R = a * 4294967296 + d) (hR : R < 18446744073709551616) :
    IntKind.u64.wrap (IntKind.u64.wrap (IntKind.u64.wrap ((a : Int) * 4294967296) + (d : Int)) - IntKind.u64.wrap ((q : Int) * (g : Int))) = (R : Int) := by
  rw [IntKind.wrap_u64, IntKind.wrap_u64, IntKind.wrap_u64, IntKind.wrap_u64]
  have e : ((g * q : Nat) : Int) + (R : Int) = (a : Int) * 4294967296 + (d : Int) := by omega
  rw [← Int.natCast_mul, Nat.mul_comm q g]
  generalize ((g * q : Nat) : Int) = X at *
  omega

theorem shl_parts {u1 u0 v s g : Nat} (h1 : u1 < v) (h0 : u0 < 18446744073709551616) (hg : v * 2 ^ s = g) (hgl : g < 18446744073709551616) (hs : s ≤ 63) :
    ∃ a un10 : Nat, bits .or .u64 (IntKind.u64.wrap ((u1 : Int) * 2 ^ s)) ((u0 : Int) / 2 ^ (64 - s)) = (a : Int) ∧ IntKind.u64.wrap ((u0 : Int) * 2 ^ s) = (un10 : Int) ∧
      (u1 * 18446744073709551616 + u0) * 2 ^ s = a * 18446744073709551616 + un10 ∧ un10 < 18446744073709551616 ∧ a < g := by
  have hp := two_pow_pos s
  have hp2 := two_pow_pos (64 - s)
  have hpp : 2 ^ s * 2 ^ (64 - s) = 18446744073709551616 := by rw [← Nat.pow_add, show s + (64 - s) = 64 by omega]
  have hu : u1 * 2 ^ s + 2 ^ s ≤ g := by
    rw [← hg, ← Nat.succ_mul]; exact Nat.mul_le_mul_right _ h1
  have hq : u0 / 2 ^ (64 - s) < 2 ^ s := by
    rw [Nat.div_lt_iff_lt_mul hp2, hpp]; exact h0
  have c1 : ((u1 : Int) * 2 ^ s) = ((u1 * 2 ^ s : Nat) : Int) := by simp
  have c2 : ((u0 : Int) / 2 ^ (64 - s)) = ((u0 / 2 ^ (64 - s) : Nat) : Int) := by simp
  have c3 : ((u0 : Int) * 2 ^ s) = ((u0 * 2 ^ s : Nat) : Int) := by simp
  have hmod : u1 * 2 ^ s % 2 ^ s = 0 := Nat.mul_mod_left _ _
  refine ⟨u1 * 2 ^ s + u0 / 2 ^ (64 - s), u0 * 2 ^ s % 18446744073709551616, ?_, ?_, ?_, Nat.mod_lt _ (by omega), by omega⟩
  · rw [c1, c2, wrap_u64_nat (by omega), u64_or_nat _ _ (by omega) (by omega), or_disjoint _ _ s hmod hq]
  · rw [c3, IntKind.wrap_u64]; omega
  · have e : u0 * 2 ^ s = u0 / 2 ^ (64 - s) * 18446744073709551616 + u0 * 2 ^ s % 18446744073709551616 := by
      have h2 := Nat.div_add_mod (u0 * 2 ^ s) 18446744073709551616
      have h3 : u0 * 2 ^ s / 18446744073709551616 = u0 / 2 ^ (64 - s) := by
        rw [← hpp, Nat.mul_comm (2 ^ s) (2 ^ (64 - s)), Nat.mul_div_mul_right _ _ hp]
      rw [h3] at h2
      omega
    rw [Nat.add_mul, Nat.add_mul, Nat.mul_right_comm]
    omega

end Go.Proofs.Ytpjanmahbimhkaa.SF
