/-
  The reference's Round with a plain function; what Mul, Div and Add hand to it.
-/
import Derived.Test.YtdadcbjhjmdheaaSpecA
import Derived.Test.YtdadcbjhjmdheaaAlg
namespace Go.Proofs.Ytdadcbjhjmdheaa.SF
open Go.ChangeShapes Go.WideShapes Go.ChangeAt Go.RowKit
set_option linter.unusedVariables false

theorem numB_pos {den : Nat} (E : Int) (h : 0 < den) : 0 < numB den E := by unfold numB; exact Nat.mul_pos h (two_pow_pos _)
theorem roundR64 (w : World) (neg : Bool) (va vb : Value) (num den K : Nat) (ex E : Int) (A' B' : Nat) (hK : K ≤ 2000) (hE : E = ex + 1074) (he1 : -150000 ≤ ex) (he2 : ex ≤ 150000) (ha : NatAt w va num) (hb : NatAt w vb den) (la : num < 2 ^ (32 * K)) (lb : den < 2 ^ (32 * K)) (hd : 0 < den) (hB' : 0 < B') (heq : A' * numB den E = numA num E * B') :
    Calls Try.prog 57 #[.agg #[.int .i64 53, .int .i64 52, .int .i64 (-1074), .int .u64 2047, .int .u64 9223372036854775808], .bool neg, va, vb, .int .i64 ex] w (RetB (.int .u64 ((rd64 neg A' B' : Nat) : Int)) w) := by
  refine (round64_any w neg va vb num den K ex E hK (Lib.hid hE) he1 he2 ha hb la lb hd).mono ?_
  rintro e w' ⟨b, hr, rfl, hbl⟩
  exact ⟨by rw [rd_eq64 neg hr hB' (numB_pos E hd) heq], hbl⟩
theorem mul_infk64 {x y : Nat} (nx : isNaN64 x = false) (ny : isNaN64 y = false) (h : isInf64 x = true ∧ isZero64 y = false ∨ isInf64 y = true ∧ isZero64 x = false) : mul64 x y = sgn64 (neg64 x != neg64 y) 9218868437227405312 := by
  unfold mul64
  generalize 2 ^ 1074 = p
  rw [nx, ny]
  rcases h with ⟨a, b⟩ | ⟨a, b⟩
  · have z : isZero64 x = false := zero_not64.mpr (by rw [inf_iff64.mp a]; omega)
    rw [a, b, z]; cases isInf64 y <;> rfl
  · have z : isZero64 y = false := zero_not64.mpr (by rw [inf_iff64.mp a]; omega)
    rw [a, b, z]; cases isInf64 x <;> rfl
theorem mul_finK64 {x y : Nat} (nx : isNaN64 x = false) (ix : isInf64 x = false) (ny : isNaN64 y = false) (iy : isInf64 y = false) : mul64 x y = rd64 (neg64 x != neg64 y) (val64 x * val64 y) (2 ^ 1074) := by
  unfold mul64
  generalize 2 ^ 1074 = p
  rw [nx, ix, ny, iy]
  cases isZero64 x <;> cases isZero64 y <;> rfl
theorem roundR32 (w : World) (neg : Bool) (va vb : Value) (num den K : Nat) (ex E : Int) (A' B' : Nat) (hK : K ≤ 2000) (hE : E = ex + 149) (he1 : -150000 ≤ ex) (he2 : ex ≤ 150000) (ha : NatAt w va num) (hb : NatAt w vb den) (la : num < 2 ^ (32 * K)) (lb : den < 2 ^ (32 * K)) (hd : 0 < den) (hB' : 0 < B') (heq : A' * numB den E = numA num E * B') :
    Calls Try.prog 57 #[.agg #[.int .i64 24, .int .i64 23, .int .i64 (-149), .int .u64 255, .int .u64 2147483648], .bool neg, va, vb, .int .i64 ex] w (RetB (.int .u64 ((rd32 neg A' B' : Nat) : Int)) w) := by
  refine (round32_any w neg va vb num den K ex E hK (Lib.hid hE) he1 he2 ha hb la lb hd).mono ?_
  rintro e w' ⟨b, hr, rfl, hbl⟩
  exact ⟨by rw [rd_eq32 neg hr hB' (numB_pos E hd) heq], hbl⟩
theorem mul_infk32 {x y : Nat} (nx : isNaN32 x = false) (ny : isNaN32 y = false) (h : isInf32 x = true ∧ isZero32 y = false ∨ isInf32 y = true ∧ isZero32 x = false) : mul32 x y = sgn32 (neg32 x != neg32 y) 2139095040 := by
  unfold mul32
  generalize 2 ^ 149 = p
  rw [nx, ny]
  rcases h with ⟨a, b⟩ | ⟨a, b⟩
  · have z : isZero32 x = false := zero_not32.mpr (by rw [inf_iff32.mp a]; omega)
    rw [a, b, z]; cases isInf32 y <;> rfl
  · have z : isZero32 y = false := zero_not32.mpr (by rw [inf_iff32.mp a]; omega)
    rw [a, b, z]; cases isInf32 x <;> rfl
theorem mul_finK32 {x y : Nat} (nx : isNaN32 x = false) (ix : isInf32 x = false) (ny : isNaN32 y = false) (iy : isInf32 y = false) : mul32 x y = rd32 (neg32 x != neg32 y) (val32 x * val32 y) (2 ^ 149) := by
  unfold mul32
  generalize 2 ^ 149 = p
  rw [nx, ix, ny, iy]
  cases isZero32 x <;> cases isZero32 y <;> rfl
theorem mul_num {m n a b L : Nat} {E : Int} (hE : E = ((a + b : Nat) : Int) - L) : m * 2 ^ a * (n * 2 ^ b) * numB 1 E = numA (m * n) E * 2 ^ L := by
  unfold numA numB
  have h : 2 ^ (a + b) * 2 ^ (-E).toNat = 2 ^ E.toNat * 2 ^ L := by rw [← Nat.pow_add, ← Nat.pow_add]; congr 1; omega
  calc m * 2 ^ a * (n * 2 ^ b) * (1 * 2 ^ (-E).toNat) = m * n * (2 ^ (a + b) * 2 ^ (-E).toNat) := by rw [Nat.pow_add, Nat.one_mul]; ac_rfl
    _ = m * n * (2 ^ E.toNat * 2 ^ L) := by rw [h]
    _ = m * n * 2 ^ E.toNat * 2 ^ L := by ac_rfl

theorem div_num {m n a b L : Nat} {E : Int} (hE : E = (a : Int) - b + L) : m * 2 ^ a * 2 ^ L * numB n E = numA m E * (n * 2 ^ b) := by
  unfold numA numB
  have h : 2 ^ a * 2 ^ L * 2 ^ (-E).toNat = 2 ^ E.toNat * 2 ^ b := by rw [← Nat.pow_add, ← Nat.pow_add, ← Nat.pow_add]; congr 1; omega
  calc m * 2 ^ a * 2 ^ L * (n * 2 ^ (-E).toNat) = m * n * (2 ^ a * 2 ^ L * 2 ^ (-E).toNat) := by ac_rfl
    _ = m * n * (2 ^ E.toNat * 2 ^ b) := by rw [h]
    _ = m * 2 ^ E.toNat * (n * 2 ^ b) := by ac_rfl
theorem add_num {N lo : Nat} {E : Int} (hE : E = (lo : Int)) : N * 2 ^ lo * numB 1 E = numA N E * 1 := by
  unfold numA numB
  subst hE
  rw [show (-(lo : Int)).toNat = 0 by omega, show ((lo : Int)).toNat = lo by omega, Nat.pow_zero, Nat.mul_one]
theorem lt_100 {m : Nat} (h : m < 18446744073709551616) : m < 2 ^ (32 * 100) := pow_lt_K (n := m) (k := 64) (K := 100) h (by omega)
theorem bool_ne {a b : Bool} (h : a ≠ b) : b = !a := by cases a <;> cases b <;> simp_all
theorem one_lt_K {K : Nat} (h : 1 ≤ K) : 1 < 2 ^ (32 * K) := Nat.one_lt_two_pow (by omega)
theorem kn_succ (K : Nat) : 2 ^ (32 * (K + 1)) = 4294967296 * 2 ^ (32 * K) := by rw [show 32 * (K + 1) = 32 + 32 * K by omega, Nat.pow_add]
theorem kn_add {a b K : Nat} (ha : a < 2 ^ (32 * K)) (hb : b < 2 ^ (32 * K)) : a + b < 2 ^ (32 * (K + 1)) := by rw [kn_succ]; omega
theorem kn_sub {a b K : Nat} (ha : a < 2 ^ (32 * K)) : a - b < 2 ^ (32 * (K + 1)) := by rw [kn_succ]; omega
theorem add_sz {v m s lo d : Nat} (hv : v = m * 2 ^ s) (hm : m < 18446744073709551616) (hd : s = d + lo) (hl : d ≤ 3000) : ∃ a, a = m * 2 ^ d ∧ v = a * 2 ^ lo ∧ a < 2 ^ (32 * 100) := by
  refine ⟨_, rfl, by rw [hv, hd, Nat.pow_add, Nat.mul_assoc], ?_⟩
  have h1 : m * 2 ^ d < 2 ^ 64 * 2 ^ d := Nat.mul_lt_mul_of_pos_right hm (two_pow_pos d)
  rw [← Nat.pow_add] at h1
  exact pow_lt_K (n := m * 2 ^ d) (k := 64 + d) (K := 100) h1 (by omega)
theorem div_infk64 {x y : Nat} (nx : isNaN64 x = false) (ny : isNaN64 y = false) (h : isInf64 x = true ∧ isInf64 y = false ∨ isZero64 y = true ∧ isZero64 x = false) : div64 x y = sgn64 (neg64 x != neg64 y) 9218868437227405312 := by
  unfold div64
  generalize 2 ^ 1074 = p
  rw [nx, ny]
  rcases h with ⟨a, b⟩ | ⟨a, b⟩
  · have z : isZero64 x = false := zero_not64.mpr (by rw [inf_iff64.mp a]; omega)
    rw [a, b, z]; cases isZero64 y <;> rfl
  · have z : isInf64 y = false := inf_not64.mpr (by rw [zero_iff64.mp a]; omega)
    rw [a, b, z]; cases isInf64 x <;> rfl
theorem div_zerok64 {x y : Nat} (nx : isNaN64 x = false) (ny : isNaN64 y = false) (ix : isInf64 x = false) (iy : isInf64 y = true) (zy : isZero64 y = false) : div64 x y = sgn64 (neg64 x != neg64 y) 0 := by
  unfold div64
  generalize 2 ^ 1074 = p
  rw [nx, ny, ix, iy, zy]
  cases isZero64 x <;> rfl
theorem div_finK64 {x y : Nat} (nx : isNaN64 x = false) (ix : isInf64 x = false) (ny : isNaN64 y = false) (iy : isInf64 y = false) (zy : isZero64 y = false) : div64 x y = rd64 (neg64 x != neg64 y) (val64 x * 2 ^ 1074) (val64 y) := by
  unfold div64
  generalize 2 ^ 1074 = p
  rw [nx, ix, ny, iy, zy]
  cases isZero64 x <;> rfl
theorem addf_same064 {x y : Nat} (hs : neg64 x = neg64 y) : addf64 x y = rd64 (neg64 x) (val64 x + val64 y) 1 := by
  rcases Nat.eq_zero_or_pos (val64 x) with h | h
  · rcases Nat.eq_zero_or_pos (val64 y) with h2 | h2
    · rw [addf_zz64 ((val_eq_zero 52).mp h) ((val_eq_zero 52).mp h2), h, h2, rd_zero64 _ (by omega), ← hs, Bool.and_self]
      unfold sgn64; cases neg64 x <;> rfl
    · rw [addf_comm64, addf_same64 hs.symm h2, Nat.add_comm, hs]
  · exact addf_same64 hs h
theorem add_round64 (w : World) (neg : Bool) (va vb : Value) (N lo K : Nat) (hlo : lo < 2047) (hK1 : 1 ≤ K) (hK : K ≤ 2000) (ha : NatAt w va N) (hb : NatAt w vb 1) (hN : N < 2 ^ (32 * K)) : Calls Try.prog 57 #[.agg #[.int .i64 53, .int .i64 52, .int .i64 (-1074), .int .u64 2047, .int .u64 9223372036854775808], .bool neg, va, vb, .int .i64 (-1074 + (lo : Int))] w (RetB (.int .u64 ((rd64 neg (N * 2 ^ lo) 1 : Nat) : Int)) w) :=
  roundR64 w neg va vb N 1 K _ (lo : Int) _ 1 hK (by omega) (by omega) (by omega) ha hb hN (one_lt_K hK1) (by omega) (by omega) (add_num rfl)
theorem add_held64 {w W w1 : World} {va vb : Value} {a b : Nat} (h : FB64 w W ∧ NatAt W va a ∧ NatAt W vb b) (hb : Below W.heap.size W w1) : FB64 w w1 ∧ NatAt w1 va a ∧ NatAt w1 vb b := ⟨FB64.step h.1 hb, h.2.1.below hb, h.2.2.below hb⟩
theorem div_infk32 {x y : Nat} (nx : isNaN32 x = false) (ny : isNaN32 y = false) (h : isInf32 x = true ∧ isInf32 y = false ∨ isZero32 y = true ∧ isZero32 x = false) : div32 x y = sgn32 (neg32 x != neg32 y) 2139095040 := by
  unfold div32
  generalize 2 ^ 149 = p
  rw [nx, ny]
  rcases h with ⟨a, b⟩ | ⟨a, b⟩
  · have z : isZero32 x = false := zero_not32.mpr (by rw [inf_iff32.mp a]; omega)
    rw [a, b, z]; cases isZero32 y <;> rfl
  · have z : isInf32 y = false := inf_not32.mpr (by rw [zero_iff32.mp a]; omega)
    rw [a, b, z]; cases isInf32 x <;> rfl
theorem div_zerok32 {x y : Nat} (nx : isNaN32 x = false) (ny : isNaN32 y = false) (ix : isInf32 x = false) (iy : isInf32 y = true) (zy : isZero32 y = false) : div32 x y = sgn32 (neg32 x != neg32 y) 0 := by
  unfold div32
  generalize 2 ^ 149 = p
  rw [nx, ny, ix, iy, zy]
  cases isZero32 x <;> rfl
theorem div_finK32 {x y : Nat} (nx : isNaN32 x = false) (ix : isInf32 x = false) (ny : isNaN32 y = false) (iy : isInf32 y = false) (zy : isZero32 y = false) : div32 x y = rd32 (neg32 x != neg32 y) (val32 x * 2 ^ 149) (val32 y) := by
  unfold div32
  generalize 2 ^ 149 = p
  rw [nx, ix, ny, iy, zy]
  cases isZero32 x <;> rfl
theorem addf_same032 {x y : Nat} (hs : neg32 x = neg32 y) : addf32 x y = rd32 (neg32 x) (val32 x + val32 y) 1 := by
  rcases Nat.eq_zero_or_pos (val32 x) with h | h
  · rcases Nat.eq_zero_or_pos (val32 y) with h2 | h2
    · rw [addf_zz32 ((val_eq_zero 23).mp h) ((val_eq_zero 23).mp h2), h, h2, rd_zero32 _ (by omega), ← hs, Bool.and_self]
      unfold sgn32; cases neg32 x <;> rfl
    · rw [addf_comm32, addf_same32 hs.symm h2, Nat.add_comm, hs]
  · exact addf_same32 hs h
theorem add_round32 (w : World) (neg : Bool) (va vb : Value) (N lo K : Nat) (hlo : lo < 255) (hK1 : 1 ≤ K) (hK : K ≤ 2000) (ha : NatAt w va N) (hb : NatAt w vb 1) (hN : N < 2 ^ (32 * K)) : Calls Try.prog 57 #[.agg #[.int .i64 24, .int .i64 23, .int .i64 (-149), .int .u64 255, .int .u64 2147483648], .bool neg, va, vb, .int .i64 (-149 + (lo : Int))] w (RetB (.int .u64 ((rd32 neg (N * 2 ^ lo) 1 : Nat) : Int)) w) :=
  roundR32 w neg va vb N 1 K _ (lo : Int) _ 1 hK (by omega) (by omega) (by omega) ha hb hN (one_lt_K hK1) (by omega) (by omega) (add_num rfl)
theorem add_held32 {w W w1 : World} {va vb : Value} {a b : Nat} (h : FB32 w W ∧ NatAt W va a ∧ NatAt W vb b) (hb : Below W.heap.size W w1) : FB32 w w1 ∧ NatAt w1 va a ∧ NatAt w1 vb b := ⟨FB32.step h.1 hb, h.2.1.below hb, h.2.2.below hb⟩
end Go.Proofs.Ytdadcbjhjmdheaa.SF
