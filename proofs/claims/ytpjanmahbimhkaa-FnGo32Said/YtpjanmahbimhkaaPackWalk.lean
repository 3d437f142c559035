/-
  The walk through fpack64 and fpack32: what they return is the nearest rung to the exact number that mantissa, exponent and mark stand for.
-/
import Derived.Test.YtpjanmahbimhkaaRows
import Derived.Test.YtpjanmahbimhkaaBits
import Derived.WalkKit
import Derived.ProofKit
import Derived.OpenShut
import Derived.WalkLawsBesides
import Derived.WalkSpells
import Derived.Deep.DeepCutAuto
import Derived.Lib.Hide
namespace Go.Proofs.Ytpjanmahbimhkaa.SF
open Go.ChangeShapes Go.WideShapes Go.ChangeAt Go.RowKit

theorem pow_lt_inv {i n : Nat} (h : 2 ^ i < 2 ^ n) : i < n := (Nat.pow_lt_pow_iff_right (by omega)).mp h

theorem Near.halve {n C A : Nat} (hC : 0 < C) (h : Near (2 * n) C A) : Near n (2 * C) A := by
  obtain ⟨h1, h2, h3, h4⟩ := h
  have e : 2 * n * C = n * (2 * C) := by rw [Nat.mul_comm 2 n, Nat.mul_assoc]
  rw [e] at h1 h2 h3 h4
  exact ⟨by omega, fun _ => by omega, by omega, fun _ => by omega⟩

def msDown (a : Value) : Nat := (intOf a).toNat

def ms5264 (a : Value) : Nat := 4503599627370496 - (intOf a).toNat
def msExp64 (a : Value) : Nat := (-1023 - intOf a).toNat
def PackPost64 (sg F T A B : Nat) (w : World) : Ending → World → Prop := fun e w' => ∃ b, IsRnd F A B b ∧ e = .returned (.int .u64 ((sg + min b (T * 2 ^ F) : Nat) : Int)) ∧ w = w'

/-- The state of the packing: a mantissa, its exponent and its mark. -/
structure PSt64 (lim K A B m tr t : Nat) (ex : Int) : Prop where
  rep : Rep m (2 ^ t * B) (tr ≠ 0) A
  exp : (t : Int) = ex + 1022 + K
  mark : tr ≠ 0 → 2 * lim ≤ m
  mlt : m < 18446744073709551616
  trlt : tr < 18446744073709551616

structure L164 (K A B m0 tr t0 : Nat) (ex0 : Int) (m t : Nat) (ex : Int) : Prop where
  st : PSt64 4503599627370496 K A B m tr t ex
  i : ∃ i : Nat, ex = ex0 - i ∧ t + i = t0 ∧ 2 ^ i ≤ m ∧ i ≤ 52

theorem L164.start {K A B m tr t : Nat} {ex : Int} (h : PSt64 4503599627370496 K A B m tr t ex) (h0 : 0 < m) : L164 K A B m tr t ex m t ex :=
  ⟨h, 0, by simp, by simp, by simp; omega, by omega⟩

theorem L164.pos {K A B m0 tr t0 : Nat} {ex0 : Int} {m t : Nat} {ex : Int} (h : L164 K A B m0 tr t0 ex0 m t ex) : 0 < m := by
  obtain ⟨i, h1, h2, h3, h4⟩ := h.i
  have := two_pow_pos i
  omega

theorem L164.bounds {K A B m0 tr t0 : Nat} {ex0 : Int} {m t : Nat} {ex : Int} (h : L164 K A B m0 tr t0 ex0 m t ex) : ex0 - 52 ≤ ex ∧ ex ≤ ex0 := by
  obtain ⟨i, h1, h2, h3, h4⟩ := h.i
  omega

theorem L164.step {K A B m0 tr t0 : Nat} {ex0 : Int} {m t : Nat} {ex : Int} (h : L164 K A B m0 tr t0 ex0 m t ex) (ht : 64 ≤ t0) (hm : m < 4503599627370496) : ∃ t', L164 K A B m0 tr t0 ex0 (m * 2) t' (ex - 1) := by
  obtain ⟨i, h1, h2, h3, h4⟩ := h.i
  have hi : i < 52 := pow_lt_inv (by omega)
  have htr : ¬ tr ≠ 0 := fun h' => by have := h.st.mark h'; omega
  obtain ⟨t', rfl⟩ : ∃ t', t = t' + 1 := ⟨t - 1, by omega⟩
  have he := h.st.exp
  refine ⟨t', ⟨h.st.rep.up htr, by omega, fun h' => absurd h' htr, by omega, h.st.trlt⟩, i + 1, by omega, by omega, by rw [pow_succ2]; omega, by omega⟩

structure L264 (K A B m1 : Nat) (ex1 : Int) (m tr t : Nat) (ex : Int) : Prop where
  st : PSt64 4503599627370496 K A B m tr t ex
  lo : 4503599627370496 ≤ m
  j : ∃ j : Nat, ex = ex1 + j ∧ m * 2 ^ j < 18446744073709551616 ∧ j ≤ 12

theorem L264.start {K A B m tr t : Nat} {ex : Int} (h : PSt64 4503599627370496 K A B m tr t ex) (h0 : 4503599627370496 ≤ m) : L264 K A B m ex m tr t ex :=
  ⟨h, h0, 0, by simp, by simpa using h.mlt, by omega⟩

theorem L264.bounds {K A B m1 : Nat} {ex1 : Int} {m tr t : Nat} {ex : Int} (h : L264 K A B m1 ex1 m tr t ex) : ex1 ≤ ex ∧ ex ≤ ex1 + 12 := by
  obtain ⟨j, h1, h2, h3⟩ := h.j
  omega

theorem L264.step {K A B m1 : Nat} {ex1 : Int} {m tr t : Nat} {ex : Int} (hB : 0 < B) (h : L264 K A B m1 ex1 m tr t ex) (hm : 18014398509481984 ≤ m) (tr' : Nat) (htr : tr' < 18446744073709551616) (hs : tr' ≠ 0 ↔ (tr ≠ 0 ∨ m % 2 = 1)) :
    ∃ t', L264 K A B m1 ex1 (m / 2) tr' t' (ex + 1) := by
  obtain ⟨j, h1, h2, h3⟩ := h.j
  have hj : 54 + j < 64 := by
    apply pow_lt_inv
    refine Nat.lt_of_le_of_lt ?_ h2
    rw [Nat.pow_add]
    exact Nat.mul_le_mul_right _ hm
  have he := h.st.exp
  have hml := h.st.mlt
  refine ⟨t + 1, ⟨(h.st.rep.down hB).congr hs.symm, by omega, fun _ => by omega, by omega, htr⟩, by omega, j + 1, by omega, ?_, by omega⟩
  refine Nat.lt_of_le_of_lt ?_ h2
  rw [pow_succ2, ← Nat.mul_assoc]
  exact Nat.mul_le_mul_right _ (by omega)

structure L364 (K A B : Nat) (ex1 : Int) (m tr t : Nat) (ex : Int) : Prop where
  rep : Rep m (2 ^ t * B) (tr ≠ 0) A
  exp : (t : Int) = ex + 1022 + K
  mlt : m < 18446744073709551616
  trlt : tr < 18446744073709551616
  hi : ex ≤ -1023
  lo : ex1 ≤ ex

theorem L364.step {K A B : Nat} {ex1 : Int} {m tr t : Nat} {ex : Int} (hB : 0 < B) (h : L364 K A B ex1 m tr t ex) (hm : ex < -1023) (tr' : Nat) (htr : tr' < 18446744073709551616) (hs : tr' ≠ 0 ↔ (tr ≠ 0 ∨ m % 2 = 1)) :
    L364 K A B ex1 (m / 2) tr' (t + 1) (ex + 1) := by
  have he := h.exp
  have hml := h.mlt
  have := h.lo
  exact ⟨(h.rep.down hB).congr hs.symm, by omega, by omega, htr, by omega, by omega⟩

/-- Behind the first rounding. -/
def Normed64 (K A B n : Nat) (ex : Int) : Prop := ∃ n' t' : Nat, Packed 52 n' t' A B ∧
  ((n = n' ∧ n < 9007199254740992 ∧ (t' : Int) = ex + 1022 + K) ∨ (n = 4503599627370496 ∧ n' = 9007199254740992 ∧ (t' : Int) + 1 = ex + 1022 + K))

theorem Normed64.of_exact {K A B m tr t : Nat} {ex : Int} (hB : 0 < B) (h : PSt64 4503599627370496 K A B m tr t ex) (lo : 4503599627370496 ≤ m) (hi : m < 9007199254740992) : Normed64 K A B m ex :=
  ⟨m, t, Packed.of_exact hB h.rep (fun h' => by have := h.mark h'; omega) lo hi, .inl ⟨rfl, hi, h.exp⟩⟩
theorem Normed64.of_down {K A B m tr t : Nat} {ex : Int} (hB : 0 < B) (h : PSt64 4503599627370496 K A B m tr t ex) (lo : 9007199254740992 ≤ m) (hi : m < 18014398509481984) (hp : m % 2 = 0 ∨ ¬ (tr ≠ 0 ∨ m / 2 % 2 = 1)) : Normed64 K A B (m / 2) (ex + 1) := by
  have he := h.exp
  exact ⟨m / 2, t + 1, Packed.of_half hB h.rep lo hi (.inr ⟨fun h' => by rcases hp with hp | hp; omega; exact hp h'.2, rfl⟩), .inl ⟨rfl, by omega, by omega⟩⟩
theorem Normed64.of_up {K A B m tr t : Nat} {ex : Int} (hB : 0 < B) (h : PSt64 4503599627370496 K A B m tr t ex) (lo : 9007199254740992 ≤ m) (hi : m + 1 < 18014398509481984) (hp : m % 2 = 1) (hs : tr ≠ 0 ∨ m / 2 % 2 = 1) : Normed64 K A B ((m + 1) / 2) (ex + 1) := by
  have he := h.exp
  have e : (m + 1) / 2 = m / 2 + 1 := by omega
  rw [e]
  exact ⟨m / 2 + 1, t + 1, Packed.of_half hB h.rep lo (by omega) (.inl ⟨hp, hs, rfl⟩), .inl ⟨rfl, by omega, by omega⟩⟩
theorem Normed64.of_carry {K A B m tr t : Nat} {ex : Int} (hB : 0 < B) (h : PSt64 4503599627370496 K A B m tr t ex) (hi : m + 1 = 18014398509481984) (hs : tr ≠ 0 ∨ m / 2 % 2 = 1) : Normed64 K A B ((m + 1) / 2 / 2) (ex + 1 + 1) := by
  have he := h.exp
  refine ⟨m / 2 + 1, t + 1, Packed.of_half hB h.rep (by omega) (by omega) (.inl ⟨by omega, hs, rfl⟩), .inr ⟨by omega, by omega, by omega⟩⟩

theorem Normed64.rung {K A B n : Nat} {ex : Int} (hB : 0 < B) (h : Normed64 K A B n ex) (he : -1022 ≤ ex) : IsRnd 52 A (B * 2 ^ K) ((ex + 1022).toNat * 4503599627370496 + n) ∧ 4503599627370496 ≤ n ∧ n < 9007199254740992 := by
  obtain ⟨n', t', hp, h1 | h1⟩ := h
  · obtain ⟨rfl, h2, h3⟩ := h1
    refine ⟨hp.rung (by omega) hB ?_, hp.lo, h2⟩
    omega
  · obtain ⟨rfl, rfl, h3⟩ := h1
    refine ⟨?_, by omega, by omega⟩
    by_cases h0 : ex = -1022
    · subst h0
      have hC : 0 < 2 ^ t' * B := Nat.mul_pos (two_pow_pos _) hB
      have hn := Near.halve (n := 4503599627370496) hC hp.near
      have e : 2 * (2 ^ t' * B) = 2 ^ 0 * (B * 2 ^ K) := by
        rw [← Nat.mul_assoc, ← pow_succ2, show t' + 1 = K by omega, Nat.pow_zero, Nat.one_mul, Nat.mul_comm]
      rw [e] at hn
      have := rung_of_near (F := 52) (k := 0) (by omega) (Nat.mul_pos hB (two_pow_pos K)) (by omega) hn (.inl rfl)
      simpa using this
    · have := hp.rung (K := K) (k := (ex + 1021).toNat) (by omega) hB (by omega)
      rw [show (ex + 1022).toNat * 4503599627370496 + 4503599627370496 = (ex + 1021).toNat * 2 ^ 52 + 9007199254740992 by omega]
      exact this

theorem PackPost64.mk {sg A B : Nat} {w : World} {X : Int} (b : Nat) (hb : IsRnd 52 A B b) (hX : X = ((sg + min b (2047 * 2 ^ 52) : Nat) : Int)) : PackPost64 sg 52 2047 A B w (.returned (.int .u64 X)) w :=
  ⟨b, hb, by rw [hX], rfl⟩

theorem pack_inf64 {sg K A B n : Nat} {ex : Int} {w : World} (hsg : Sg64 sg) (hB : 0 < B) (h : Normed64 K A B n ex) (he : 1024 ≤ ex) :
    PackPost64 sg 52 2047 A (B * 2 ^ K) w (.returned (.int .u64 (bits BinOp.xor IntKind.u64 (sg : Int) 9218868437227405312))) w := by
  obtain ⟨h1, h2, h3⟩ := h.rung hB (by omega)
  refine PackPost64.mk _ h1 ?_
  rw [show (9218868437227405312 : Int) = ((9218868437227405312 : Nat) : Int) from rfl, xor_sg64 hsg (by omega)]
  congr 2
  have : (2046 : Nat) ≤ (ex + 1022).toNat := by omega
  omega

theorem pack_zero64 {sg K A B n : Nat} {ex : Int} {w : World} (hsg : Sg64 sg) (h : Normed64 K A B n ex) (he : ex < -1075) :
    PackPost64 sg 52 2047 A (B * 2 ^ K) w (.returned (.int .u64 (bits BinOp.or IntKind.u64 (sg : Int) 0))) w := by
  obtain ⟨n', t', hp, h1⟩ := h
  refine PackPost64.mk 0 (hp.zero (by omega)) ?_
  rw [show (0 : Int) = ((0 : Nat) : Int) from rfl, or_sg64 hsg (by omega)]
  simp

theorem or_norm64 {sg n e : Nat} (hsg : Sg64 sg) (h1 : 4503599627370496 ≤ n) (h2 : n < 9007199254740992) (he : e < 2047) :
    bits .or .u64 (bits .or .u64 (sg : Int) (((e + 1) * 4503599627370496 : Nat) : Int)) (bits .and .u64 (n : Int) 4503599627370495) = ((sg + (e * 4503599627370496 + n) : Nat) : Int) := by
  rw [or_sg64 hsg (by omega)]
  have e1 := u64_and_nat n 4503599627370495 (by omega) (by omega)
  rw [nat_mask52] at e1
  rw [show (4503599627370495 : Int) = ((4503599627370495 : Nat) : Int) from rfl, e1]
  have hs := sg64_mod hsg
  rw [u64_or_nat _ _ (by omega) (by omega), or_disjoint _ _ 52 (by omega) (by omega)]
  congr 1
  omega

theorem pack_norm64 {sg K A B n : Nat} {ex : Int} {w : World} (hsg : Sg64 sg) (hB : 0 < B) (h : Normed64 K A B n ex) (he : -1022 ≤ ex) (he' : ex < 1024) :
    PackPost64 sg 52 2047 A (B * 2 ^ K) w (.returned (.int .u64 (bits BinOp.or IntKind.u64 (bits BinOp.or IntKind.u64 (sg : Int) ((ex + 1023) * 4503599627370496)) (bits BinOp.and IntKind.u64 (n : Int) 4503599627370495)))) w := by
  obtain ⟨h1, h2, h3⟩ := h.rung hB (by omega)
  refine PackPost64.mk _ h1 ?_
  have e : (ex + 1023) * 4503599627370496 = ((((ex + 1022).toNat + 1) * 4503599627370496 : Nat) : Int) := by omega
  rw [e, or_norm64 hsg h2 h3 (by omega)]
  congr 2
  omega

theorem Normed64.small {K A B n : Nat} {ex : Int} (h : Normed64 K A B n ex) (he : ex < -1022) : 1 ≤ K ∧ A < 9007199254740992 * (2 ^ (K - 1) * B) := by
  obtain ⟨n', t', hp, h1⟩ := h
  refine ⟨by omega, Nat.lt_of_lt_of_le hp.most (Nat.mul_le_mul_left _ (Nat.mul_le_mul_right _ (Nat.pow_le_pow_right (by omega) (by omega))))⟩

theorem L364.least {K A B : Nat} {ex1 : Int} {m tr t : Nat} {ex : Int} {n : Nat} {ex3 : Int} (hB : 0 < B) (h : L364 K A B ex1 m tr t ex) (he : ¬ ex < -1023) (hN : Normed64 K A B n ex3) (hn : ex3 < -1022) :
    m < 9007199254740992 ∧ ∀ r, ((m % 2 = 1 ∧ (tr ≠ 0 ∨ m / 2 % 2 = 1) ∧ r = m / 2 + 1) ∨ (¬ (m % 2 = 1 ∧ (tr ≠ 0 ∨ m / 2 % 2 = 1)) ∧ r = m / 2)) → IsRnd 52 A (B * 2 ^ K) r := by
  obtain ⟨hK, hA⟩ := hN.small hn
  have h1 := h.exp
  have h2 := h.hi
  have ht : t = K - 1 := by omega
  have hr := h.rep
  rw [ht] at hr
  have hm : m < 9007199254740992 := by
    have := Nat.lt_of_le_of_lt hr.le hA
    exact Nat.lt_of_mul_lt_mul_right this
  exact ⟨hm, fun r hr' => rung_least (by omega) hB hK hr hm hr'⟩

theorem pack_sub64 {sg A B r : Nat} {w : World} {X : Int} (hsg : Sg64 sg) (h : IsRnd 52 A B r) (hr : r < 4503599627370496) (hX : X = (r : Int)) :
    PackPost64 sg 52 2047 A B w (.returned (.int .u64 (bits BinOp.or IntKind.u64 (sg : Int) X))) w := by
  refine PackPost64.mk _ h ?_
  rw [hX, or_sg64 hsg (by omega)]
  congr 2
  omega

theorem pack_sub164 {sg A B r : Nat} {w : World} {X : Int} (hsg : Sg64 sg) (h : IsRnd 52 A B r) (hr : 4503599627370496 ≤ r) (hr' : r < 9007199254740992) (hX : X = (r : Int)) :
    PackPost64 sg 52 2047 A B w (.returned (.int .u64 (bits BinOp.or IntKind.u64 (bits BinOp.or IntKind.u64 (sg : Int) 4503599627370496) (bits BinOp.and IntKind.u64 X 4503599627370495)))) w := by
  refine PackPost64.mk _ h ?_
  have := or_norm64 (e := 0) hsg hr hr' (by omega)
  rw [hX, show (4503599627370496 : Int) = (((0 + 1) * 4503599627370496 : Nat) : Int) from rfl, this]
  congr 2
  omega

set_option maxRecDepth 100000 in
set_option maxHeartbeats 1000000 in
theorem fpack64_any (sg m tr : Nat) (ex : Int) (A B K t : Nat) (w : World) (hsg : Hid (Sg64 sg)) (hm0 : 0 < m)
    (he : -200000 ≤ ex) (he' : ex ≤ 200000) (ht64 : 64 ≤ t) (hB : 0 < B) (hst : PSt64 4503599627370496 K A B m tr t ex) :
    Calls Try.prog 104 #[.int .u64 (sg : Int), .int .u64 (m : Int), .int .i64 ex, .int .u64 (tr : Int)] w (PackPost64 sg 52 2047 A (B * 2 ^ K) w) := by
  have H0 := L164.start hst hm0
  go_enter Try.func104, Try.ntmps104
  go_wp2_with fail
  go_loop [1, 2] (fun a b => ∃ (m' t' : Nat) (ex' : Int), a = .int .u64 (m' : Int) ∧ b = .int .i64 ex' ∧ L164 K A B m tr t ex m' t' ex') (fun a b => ms5264 a)
  case atStart => exact ⟨m, t, ex, rfl, rfl, H0⟩
  case round =>
    obtain ⟨m1, t1, ex1, rfl, rfl, h1⟩ := hrel
    obtain ⟨hb1, hb2⟩ := h1.bounds
    have hp1 := h1.pos
    by_cases hlt : (m1 : Int) < 4503599627370496
    · obtain ⟨t2, h2⟩ := h1.step ht64 (by omega)
      go_wp2_with fail
      go_round
      case rel => exact ⟨m1 * 2, t2, ex1 - 1, by go_num, rfl, h2⟩
      case measure => simp [ms5264, intOf]; omega
    · have H2 := L264.start h1.st (by omega)
      go_wp2_with fail
      go_loop [1, 2, 3] (fun a b c => ∃ (m' t' tr' : Nat) (ex' : Int), a = .int .u64 (m' : Int) ∧ b = .int .i64 ex' ∧ c = .int .u64 (tr' : Int) ∧ L264 K A B m1 ex1 m' tr' t' ex') (fun a b c => msDown a)
      case atStart => exact ⟨m1, t1, tr, ex1, rfl, rfl, rfl, H2⟩
      case round =>
        obtain ⟨m2, t2, tr2, ex2, rfl, rfl, rfl, h2⟩ := hrel
        obtain ⟨hc1, hc2⟩ := h2.bounds
        by_cases hge : (18014398509481984 : Int) ≤ (m2 : Int)
        · obtain ⟨tr3, e3, hl3, hs3⟩ := sticky .u64 tr2 m2 (by decide) h2.st.trlt h2.st.mlt
          obtain ⟨t3, h3⟩ := h2.step hB (by omega) tr3 hl3 hs3
          clear hl3 hs3
          go_wp2_with fail
          go_round
          case rel => exact ⟨m2 / 2, t3, tr3, ex2 + 1, by go_num, rfl, rfl, h3⟩
          case measure => simp [msDown, intOf]; omega
        · have hlo2 := h2.lo
          go_upto_if 35 with (fail)
          go_cut [1, 2] (fun a b wx => ∃ (n : Nat) (ex3 : Int), a = .int .u64 (n : Int) ∧ b = .int .i64 ex3 ∧ Normed64 K A B n ex3 ∧ ex1 ≤ ex3 ∧ ex3 ≤ ex1 + 14 ∧ wx = w)
          case first =>
            generalize hdec : decide ((9007199254740992 : Int) ≤ (m2 : Int)) = bd
            cases bd
            · have h53 : (m2 : Int) < 9007199254740992 := by simpa using hdec
              clear hdec
              have R := Normed64.of_exact hB h2.st (by omega) (by omega)
              go_wp2_with fail
              go_meet
              exact ⟨m2, ex2, rfl, rfl, R, by omega, by omega, rfl⟩
            · have h53 : (9007199254740992 : Int) ≤ (m2 : Int) := by simpa using hdec
              have a1 := and_one .u64 m2 (by decide) h2.st.mlt
              have a2 := and_two .u64 m2 (by decide) h2.st.mlt
              clear hdec
              rcases Nat.mod_two_eq_zero_or_one m2 with hp | hp
              · have R := Normed64.of_down hB h2.st (by omega) (by omega) (.inl hp)
                rw [hp] at a1
                clear a2 hp
                go_wp2_with fail
                go_meet
                exact ⟨m2 / 2, ex2 + 1, by go_num, rfl, R, by omega, by omega, rfl⟩
              · by_cases hup : tr2 ≠ 0 ∨ m2 / 2 % 2 = 1
                · rw [hp] at a1
                  by_cases hc : (m2 : Int) + 1 < 18014398509481984
                  · have R := Normed64.of_up hB h2.st (by omega) (by omega) hp hup
                    have hdc : decide ((18014398509481984 : Int) ≤ (m2 : Int) + 1) = false := decide_eq_false (by omega)
                    clear hp
                    by_cases h0 : tr2 = 0
                    · have h2' : m2 / 2 % 2 = 1 := by omega
                      rw [h2'] at a2
                      have e0 : ((tr2 : Int) != 0) = false := by simp [h0]
                      clear h0 h2' hup
                      go_wp2_with fail
                      go_meet
                      exact ⟨(m2 + 1) / 2, ex2 + 1, by go_num, rfl, R, by omega, by omega, rfl⟩
                    · have e0 : ((tr2 : Int) != 0) = true := by simp [h0]
                      clear h0 hup a2
                      go_wp2_with fail
                      go_meet
                      exact ⟨(m2 + 1) / 2, ex2 + 1, by go_num, rfl, R, by omega, by omega, rfl⟩
                  · have R := Normed64.of_carry hB h2.st (by omega) hup
                    have hdc : decide ((18014398509481984 : Int) ≤ (m2 : Int) + 1) = true := decide_eq_true (by omega)
                    clear hp
                    by_cases h0 : tr2 = 0
                    · have h2' : m2 / 2 % 2 = 1 := by omega
                      rw [h2'] at a2
                      have e0 : ((tr2 : Int) != 0) = false := by simp [h0]
                      clear h0 h2' hup
                      go_wp2_with fail
                      go_meet
                      exact ⟨(m2 + 1) / 2 / 2, ex2 + 1 + 1, by go_num, rfl, R, by omega, by omega, rfl⟩
                    · have e0 : ((tr2 : Int) != 0) = true := by simp [h0]
                      clear h0 hup a2
                      go_wp2_with fail
                      go_meet
                      exact ⟨(m2 + 1) / 2 / 2, ex2 + 1 + 1, by go_num, rfl, R, by omega, by omega, rfl⟩
                · have R := Normed64.of_down hB h2.st (by omega) (by omega) (.inr hup)
                  have h0 : tr2 = 0 := by omega
                  have h2' : m2 / 2 % 2 = 0 := by omega
                  have e0 : ((tr2 : Int) != 0) = false := by simp [h0]
                  rw [h2'] at a2
                  rw [hp] at a1
                  clear h0 h2' hup hp
                  go_wp2_with fail
                  go_meet
                  exact ⟨m2 / 2, ex2 + 1, by go_num, rfl, R, by omega, by omega, rfl⟩
          case rest =>
            obtain ⟨n, ex3, rfl, rfl, hN, hd1, hd2, rfl⟩ := hcut
            by_cases hr1 : 1024 ≤ ex3
            · go_wp2_with fail
              go_ret
              exact pack_inf64 hsg.out hB hN hr1
            · by_cases hr2 : ex3 < -1022
              · by_cases hr3 : ex3 < -1075
                · go_wp2_with fail
                  go_ret
                  exact pack_zero64 hsg.out hN hr3
                · go_wp2_with fail
                  have H3 : L364 K A B ex1 m1 tr t1 ex1 := ⟨h1.st.rep, h1.st.exp, h1.st.mlt, h1.st.trlt, by omega, by omega⟩
                  go_loop [1, 2, 3] (fun a b c => ∃ (m' t' tr' : Nat) (ex' : Int), a = .int .u64 (m' : Int) ∧ b = .int .i64 ex' ∧ c = .int .u64 (tr' : Int) ∧ L364 K A B ex1 m' tr' t' ex') (fun a b c => msExp64 b)
                  case atStart => exact ⟨m1, t1, tr, ex1, rfl, rfl, rfl, H3⟩
                  case round =>
                    obtain ⟨m4, t4, tr4, ex4, rfl, rfl, rfl, h4⟩ := hrel
                    have hf1 := h4.hi
                    have hf2 := h4.lo
                    by_cases hlt4 : ex4 < -1023
                    · obtain ⟨tr5, e5, hl5, hs5⟩ := sticky .u64 tr4 m4 (by decide) h4.trlt h4.mlt
                      have h5 := h4.step hB (by omega) tr5 hl5 hs5
                      clear hl5 hs5
                      go_wp2_with fail
                      go_round
                      case rel => exact ⟨m4 / 2, t4 + 1, tr5, ex4 + 1, by go_num, rfl, rfl, h5⟩
                      case measure => simp [msExp64, intOf]; omega
                    · obtain ⟨hm4, hR0⟩ := h4.least hB hlt4 hN hr2
                      have hR := Lib.hid hR0
                      clear hR0
                      obtain rfl : ex4 = -1023 := by omega
                      have a1 := and_one .u64 m4 (by decide) h4.mlt
                      have a2 := and_two .u64 m4 (by decide) h4.mlt
                      rcases Nat.mod_two_eq_zero_or_one m4 with hp | hp
                      · have R := hR.out (m4 / 2) (.inr ⟨fun h' => by omega, rfl⟩)
                        rw [hp] at a1
                        clear a2 hp hR
                        have hd : decide ((m4 : Int) / 2 < 4503599627370496) = true := decide_eq_true (by omega)
                        go_wp2_with fail
                        go_ret
                        exact pack_sub64 hsg.out R (by omega) (by omega)
                      · rw [hp] at a1
                        by_cases hup : tr4 ≠ 0 ∨ m4 / 2 % 2 = 1
                        · have R := hR.out ((m4 + 1) / 2) (.inl ⟨hp, hup, by omega⟩)
                          by_cases h0 : tr4 = 0
                          · have h2' : m4 / 2 % 2 = 1 := by omega
                            rw [h2'] at a2
                            have e0 : ((tr4 : Int) != 0) = false := by simp [h0]
                            clear h0 h2' hup hR
                            by_cases hn : m4 + 1 < 9007199254740992
                            · have hd : decide (((m4 : Int) + 1) / 2 < 4503599627370496) = true := decide_eq_true (by omega)
                              clear hp
                              go_wp2_with fail
                              go_ret
                              exact pack_sub64 hsg.out R (by omega) (by omega)
                            · have hd : decide (((m4 : Int) + 1) / 2 < 4503599627370496) = false := decide_eq_false (by omega)
                              clear hp
                              go_wp2_with fail
                              go_ret
                              exact pack_sub164 hsg.out R (by omega) (by omega) (by omega)
                          · have e0 : ((tr4 : Int) != 0) = true := by simp [h0]
                            clear h0 hup a2 hR
                            by_cases hn : m4 + 1 < 9007199254740992
                            · have hd : decide (((m4 : Int) + 1) / 2 < 4503599627370496) = true := decide_eq_true (by omega)
                              clear hp
                              go_wp2_with fail
                              go_ret
                              exact pack_sub64 hsg.out R (by omega) (by omega)
                            · have hd : decide (((m4 : Int) + 1) / 2 < 4503599627370496) = false := decide_eq_false (by omega)
                              clear hp
                              go_wp2_with fail
                              go_ret
                              exact pack_sub164 hsg.out R (by omega) (by omega) (by omega)
                        · have R := hR.out (m4 / 2) (.inr ⟨fun h' => hup h'.2, rfl⟩)
                          have h0 : tr4 = 0 := by omega
                          have h2' : m4 / 2 % 2 = 0 := by omega
                          have e0 : ((tr4 : Int) != 0) = false := by simp [h0]
                          rw [h2'] at a2
                          clear h0 h2' hup hp hR
                          have hd : decide ((m4 : Int) / 2 < 4503599627370496) = true := decide_eq_true (by omega)
                          go_wp2_with fail
                          go_ret
                          exact pack_sub64 hsg.out R (by omega) (by omega)
              · go_wp2_with fail
                go_ret
                exact pack_norm64 hsg.out hB hN (by omega) (by omega)
def ms5232 (a : Value) : Nat := 8388608 - (intOf a).toNat
def msExp32 (a : Value) : Nat := (-127 - intOf a).toNat
def PackPost32 (sg F T A B : Nat) (w : World) : Ending → World → Prop := fun e w' => ∃ b, IsRnd F A B b ∧ e = .returned (.int .u32 ((sg + min b (T * 2 ^ F) : Nat) : Int)) ∧ w = w'

/-- The state of the packing: a mantissa, its exponent and its mark. -/
structure PSt32 (lim K A B m tr t : Nat) (ex : Int) : Prop where
  rep : Rep m (2 ^ t * B) (tr ≠ 0) A
  exp : (t : Int) = ex + 126 + K
  mark : tr ≠ 0 → 2 * lim ≤ m
  mlt : m < 4294967296
  trlt : tr < 4294967296

structure L132 (K A B m0 tr t0 : Nat) (ex0 : Int) (m t : Nat) (ex : Int) : Prop where
  st : PSt32 8388608 K A B m tr t ex
  i : ∃ i : Nat, ex = ex0 - i ∧ t + i = t0 ∧ 2 ^ i ≤ m ∧ i ≤ 23

theorem L132.start {K A B m tr t : Nat} {ex : Int} (h : PSt32 8388608 K A B m tr t ex) (h0 : 0 < m) : L132 K A B m tr t ex m t ex :=
  ⟨h, 0, by simp, by simp, by simp; omega, by omega⟩

theorem L132.pos {K A B m0 tr t0 : Nat} {ex0 : Int} {m t : Nat} {ex : Int} (h : L132 K A B m0 tr t0 ex0 m t ex) : 0 < m := by
  obtain ⟨i, h1, h2, h3, h4⟩ := h.i
  have := two_pow_pos i
  omega

theorem L132.bounds {K A B m0 tr t0 : Nat} {ex0 : Int} {m t : Nat} {ex : Int} (h : L132 K A B m0 tr t0 ex0 m t ex) : ex0 - 23 ≤ ex ∧ ex ≤ ex0 := by
  obtain ⟨i, h1, h2, h3, h4⟩ := h.i
  omega

theorem L132.step {K A B m0 tr t0 : Nat} {ex0 : Int} {m t : Nat} {ex : Int} (h : L132 K A B m0 tr t0 ex0 m t ex) (ht : 64 ≤ t0) (hm : m < 8388608) : ∃ t', L132 K A B m0 tr t0 ex0 (m * 2) t' (ex - 1) := by
  obtain ⟨i, h1, h2, h3, h4⟩ := h.i
  have hi : i < 23 := pow_lt_inv (by omega)
  have htr : ¬ tr ≠ 0 := fun h' => by have := h.st.mark h'; omega
  obtain ⟨t', rfl⟩ : ∃ t', t = t' + 1 := ⟨t - 1, by omega⟩
  have he := h.st.exp
  refine ⟨t', ⟨h.st.rep.up htr, by omega, fun h' => absurd h' htr, by omega, h.st.trlt⟩, i + 1, by omega, by omega, by rw [pow_succ2]; omega, by omega⟩

structure L232 (K A B m1 : Nat) (ex1 : Int) (m tr t : Nat) (ex : Int) : Prop where
  st : PSt32 8388608 K A B m tr t ex
  lo : 8388608 ≤ m
  j : ∃ j : Nat, ex = ex1 + j ∧ m * 2 ^ j < 4294967296 ∧ j ≤ 12

theorem L232.start {K A B m tr t : Nat} {ex : Int} (h : PSt32 8388608 K A B m tr t ex) (h0 : 8388608 ≤ m) : L232 K A B m ex m tr t ex :=
  ⟨h, h0, 0, by simp, by simpa using h.mlt, by omega⟩

theorem L232.bounds {K A B m1 : Nat} {ex1 : Int} {m tr t : Nat} {ex : Int} (h : L232 K A B m1 ex1 m tr t ex) : ex1 ≤ ex ∧ ex ≤ ex1 + 12 := by
  obtain ⟨j, h1, h2, h3⟩ := h.j
  omega

theorem L232.step {K A B m1 : Nat} {ex1 : Int} {m tr t : Nat} {ex : Int} (hB : 0 < B) (h : L232 K A B m1 ex1 m tr t ex) (hm : 33554432 ≤ m) (tr' : Nat) (htr : tr' < 4294967296) (hs : tr' ≠ 0 ↔ (tr ≠ 0 ∨ m % 2 = 1)) :
    ∃ t', L232 K A B m1 ex1 (m / 2) tr' t' (ex + 1) := by
  obtain ⟨j, h1, h2, h3⟩ := h.j
  have hj : 25 + j < 32 := by
    apply pow_lt_inv
    refine Nat.lt_of_le_of_lt ?_ h2
    rw [Nat.pow_add]
    exact Nat.mul_le_mul_right _ hm
  have he := h.st.exp
  have hml := h.st.mlt
  refine ⟨t + 1, ⟨(h.st.rep.down hB).congr hs.symm, by omega, fun _ => by omega, by omega, htr⟩, by omega, j + 1, by omega, ?_, by omega⟩
  refine Nat.lt_of_le_of_lt ?_ h2
  rw [pow_succ2, ← Nat.mul_assoc]
  exact Nat.mul_le_mul_right _ (by omega)

structure L332 (K A B : Nat) (ex1 : Int) (m tr t : Nat) (ex : Int) : Prop where
  rep : Rep m (2 ^ t * B) (tr ≠ 0) A
  exp : (t : Int) = ex + 126 + K
  mlt : m < 4294967296
  trlt : tr < 4294967296
  hi : ex ≤ -127
  lo : ex1 ≤ ex

theorem L332.step {K A B : Nat} {ex1 : Int} {m tr t : Nat} {ex : Int} (hB : 0 < B) (h : L332 K A B ex1 m tr t ex) (hm : ex < -127) (tr' : Nat) (htr : tr' < 4294967296) (hs : tr' ≠ 0 ↔ (tr ≠ 0 ∨ m % 2 = 1)) :
    L332 K A B ex1 (m / 2) tr' (t + 1) (ex + 1) := by
  have he := h.exp
  have hml := h.mlt
  have := h.lo
  exact ⟨(h.rep.down hB).congr hs.symm, by omega, by omega, htr, by omega, by omega⟩

/-- Behind the first rounding. -/
def Normed32 (K A B n : Nat) (ex : Int) : Prop := ∃ n' t' : Nat, Packed 23 n' t' A B ∧
  ((n = n' ∧ n < 16777216 ∧ (t' : Int) = ex + 126 + K) ∨ (n = 8388608 ∧ n' = 16777216 ∧ (t' : Int) + 1 = ex + 126 + K))

theorem Normed32.of_exact {K A B m tr t : Nat} {ex : Int} (hB : 0 < B) (h : PSt32 8388608 K A B m tr t ex) (lo : 8388608 ≤ m) (hi : m < 16777216) : Normed32 K A B m ex :=
  ⟨m, t, Packed.of_exact hB h.rep (fun h' => by have := h.mark h'; omega) lo hi, .inl ⟨rfl, hi, h.exp⟩⟩
theorem Normed32.of_down {K A B m tr t : Nat} {ex : Int} (hB : 0 < B) (h : PSt32 8388608 K A B m tr t ex) (lo : 16777216 ≤ m) (hi : m < 33554432) (hp : m % 2 = 0 ∨ ¬ (tr ≠ 0 ∨ m / 2 % 2 = 1)) : Normed32 K A B (m / 2) (ex + 1) := by
  have he := h.exp
  exact ⟨m / 2, t + 1, Packed.of_half hB h.rep lo hi (.inr ⟨fun h' => by rcases hp with hp | hp; omega; exact hp h'.2, rfl⟩), .inl ⟨rfl, by omega, by omega⟩⟩
theorem Normed32.of_up {K A B m tr t : Nat} {ex : Int} (hB : 0 < B) (h : PSt32 8388608 K A B m tr t ex) (lo : 16777216 ≤ m) (hi : m + 1 < 33554432) (hp : m % 2 = 1) (hs : tr ≠ 0 ∨ m / 2 % 2 = 1) : Normed32 K A B ((m + 1) / 2) (ex + 1) := by
  have he := h.exp
  have e : (m + 1) / 2 = m / 2 + 1 := by omega
  rw [e]
  exact ⟨m / 2 + 1, t + 1, Packed.of_half hB h.rep lo (by omega) (.inl ⟨hp, hs, rfl⟩), .inl ⟨rfl, by omega, by omega⟩⟩
theorem Normed32.of_carry {K A B m tr t : Nat} {ex : Int} (hB : 0 < B) (h : PSt32 8388608 K A B m tr t ex) (hi : m + 1 = 33554432) (hs : tr ≠ 0 ∨ m / 2 % 2 = 1) : Normed32 K A B ((m + 1) / 2 / 2) (ex + 1 + 1) := by
  have he := h.exp
  refine ⟨m / 2 + 1, t + 1, Packed.of_half hB h.rep (by omega) (by omega) (.inl ⟨by omega, hs, rfl⟩), .inr ⟨by omega, by omega, by omega⟩⟩

theorem Normed32.rung {K A B n : Nat} {ex : Int} (hB : 0 < B) (h : Normed32 K A B n ex) (he : -126 ≤ ex) : IsRnd 23 A (B * 2 ^ K) ((ex + 126).toNat * 8388608 + n) ∧ 8388608 ≤ n ∧ n < 16777216 := by
  obtain ⟨n', t', hp, h1 | h1⟩ := h
  · obtain ⟨rfl, h2, h3⟩ := h1
    refine ⟨hp.rung (by omega) hB ?_, hp.lo, h2⟩
    omega
  · obtain ⟨rfl, rfl, h3⟩ := h1
    refine ⟨?_, by omega, by omega⟩
    by_cases h0 : ex = -126
    · subst h0
      have hC : 0 < 2 ^ t' * B := Nat.mul_pos (two_pow_pos _) hB
      have hn := Near.halve (n := 8388608) hC hp.near
      have e : 2 * (2 ^ t' * B) = 2 ^ 0 * (B * 2 ^ K) := by
        rw [← Nat.mul_assoc, ← pow_succ2, show t' + 1 = K by omega, Nat.pow_zero, Nat.one_mul, Nat.mul_comm]
      rw [e] at hn
      have := rung_of_near (F := 23) (k := 0) (by omega) (Nat.mul_pos hB (two_pow_pos K)) (by omega) hn (.inl rfl)
      simpa using this
    · have := hp.rung (K := K) (k := (ex + 125).toNat) (by omega) hB (by omega)
      rw [show (ex + 126).toNat * 8388608 + 8388608 = (ex + 125).toNat * 2 ^ 23 + 16777216 by omega]
      exact this

theorem PackPost32.mk {sg A B : Nat} {w : World} {X : Int} (b : Nat) (hb : IsRnd 23 A B b) (hX : X = ((sg + min b (255 * 2 ^ 23) : Nat) : Int)) : PackPost32 sg 23 255 A B w (.returned (.int .u32 X)) w :=
  ⟨b, hb, by rw [hX], rfl⟩

theorem pack_inf32 {sg K A B n : Nat} {ex : Int} {w : World} (hsg : Sg32 sg) (hB : 0 < B) (h : Normed32 K A B n ex) (he : 128 ≤ ex) :
    PackPost32 sg 23 255 A (B * 2 ^ K) w (.returned (.int .u32 (bits BinOp.xor IntKind.u32 (sg : Int) 2139095040))) w := by
  obtain ⟨h1, h2, h3⟩ := h.rung hB (by omega)
  refine PackPost32.mk _ h1 ?_
  rw [show (2139095040 : Int) = ((2139095040 : Nat) : Int) from rfl, xor_sg32 hsg (by omega)]
  congr 2
  have : (254 : Nat) ≤ (ex + 126).toNat := by omega
  omega

theorem pack_zero32 {sg K A B n : Nat} {ex : Int} {w : World} (hsg : Sg32 sg) (h : Normed32 K A B n ex) (he : ex < -150) :
    PackPost32 sg 23 255 A (B * 2 ^ K) w (.returned (.int .u32 (bits BinOp.or IntKind.u32 (sg : Int) 0))) w := by
  obtain ⟨n', t', hp, h1⟩ := h
  refine PackPost32.mk 0 (hp.zero (by omega)) ?_
  rw [show (0 : Int) = ((0 : Nat) : Int) from rfl, or_sg32 hsg (by omega)]
  simp

theorem or_norm32 {sg n e : Nat} (hsg : Sg32 sg) (h1 : 8388608 ≤ n) (h2 : n < 16777216) (he : e < 255) :
    bits .or .u32 (bits .or .u32 (sg : Int) (((e + 1) * 8388608 : Nat) : Int)) (bits .and .u32 (n : Int) 8388607) = ((sg + (e * 8388608 + n) : Nat) : Int) := by
  rw [or_sg32 hsg (by omega)]
  have e1 := u32_and_nat n 8388607 (by omega) (by omega)
  rw [nat_mask23] at e1
  rw [show (8388607 : Int) = ((8388607 : Nat) : Int) from rfl, e1]
  have hs := sg32_mod hsg
  rw [u32_or_nat _ _ (by omega) (by omega), or_disjoint _ _ 23 (by omega) (by omega)]
  congr 1
  omega

theorem pack_norm32 {sg K A B n : Nat} {ex : Int} {w : World} (hsg : Sg32 sg) (hB : 0 < B) (h : Normed32 K A B n ex) (he : -126 ≤ ex) (he' : ex < 128) :
    PackPost32 sg 23 255 A (B * 2 ^ K) w (.returned (.int .u32 (bits BinOp.or IntKind.u32 (bits BinOp.or IntKind.u32 (sg : Int) ((ex + 127) * 8388608)) (bits BinOp.and IntKind.u32 (n : Int) 8388607)))) w := by
  obtain ⟨h1, h2, h3⟩ := h.rung hB (by omega)
  refine PackPost32.mk _ h1 ?_
  have e : (ex + 127) * 8388608 = ((((ex + 126).toNat + 1) * 8388608 : Nat) : Int) := by omega
  rw [e, or_norm32 hsg h2 h3 (by omega)]
  congr 2
  omega

theorem Normed32.small {K A B n : Nat} {ex : Int} (h : Normed32 K A B n ex) (he : ex < -126) : 1 ≤ K ∧ A < 16777216 * (2 ^ (K - 1) * B) := by
  obtain ⟨n', t', hp, h1⟩ := h
  refine ⟨by omega, Nat.lt_of_lt_of_le hp.most (Nat.mul_le_mul_left _ (Nat.mul_le_mul_right _ (Nat.pow_le_pow_right (by omega) (by omega))))⟩

theorem L332.least {K A B : Nat} {ex1 : Int} {m tr t : Nat} {ex : Int} {n : Nat} {ex3 : Int} (hB : 0 < B) (h : L332 K A B ex1 m tr t ex) (he : ¬ ex < -127) (hN : Normed32 K A B n ex3) (hn : ex3 < -126) :
    m < 16777216 ∧ ∀ r, ((m % 2 = 1 ∧ (tr ≠ 0 ∨ m / 2 % 2 = 1) ∧ r = m / 2 + 1) ∨ (¬ (m % 2 = 1 ∧ (tr ≠ 0 ∨ m / 2 % 2 = 1)) ∧ r = m / 2)) → IsRnd 23 A (B * 2 ^ K) r := by
  obtain ⟨hK, hA⟩ := hN.small hn
  have h1 := h.exp
  have h2 := h.hi
  have ht : t = K - 1 := by omega
  have hr := h.rep
  rw [ht] at hr
  have hm : m < 16777216 := by
    have := Nat.lt_of_le_of_lt hr.le hA
    exact Nat.lt_of_mul_lt_mul_right this
  exact ⟨hm, fun r hr' => rung_least (by omega) hB hK hr hm hr'⟩

theorem pack_sub32 {sg A B r : Nat} {w : World} {X : Int} (hsg : Sg32 sg) (h : IsRnd 23 A B r) (hr : r < 8388608) (hX : X = (r : Int)) :
    PackPost32 sg 23 255 A B w (.returned (.int .u32 (bits BinOp.or IntKind.u32 (sg : Int) X))) w := by
  refine PackPost32.mk _ h ?_
  rw [hX, or_sg32 hsg (by omega)]
  congr 2
  omega

theorem pack_sub132 {sg A B r : Nat} {w : World} {X : Int} (hsg : Sg32 sg) (h : IsRnd 23 A B r) (hr : 8388608 ≤ r) (hr' : r < 16777216) (hX : X = (r : Int)) :
    PackPost32 sg 23 255 A B w (.returned (.int .u32 (bits BinOp.or IntKind.u32 (bits BinOp.or IntKind.u32 (sg : Int) 8388608) (bits BinOp.and IntKind.u32 X 8388607)))) w := by
  refine PackPost32.mk _ h ?_
  have := or_norm32 (e := 0) hsg hr hr' (by omega)
  rw [hX, show (8388608 : Int) = (((0 + 1) * 8388608 : Nat) : Int) from rfl, this]
  congr 2
  omega

set_option maxRecDepth 100000 in
set_option maxHeartbeats 1000000 in
theorem fpack32_any (sg m tr : Nat) (ex : Int) (A B K t : Nat) (w : World) (hsg : Hid (Sg32 sg)) (hm0 : 0 < m)
    (he : -200000 ≤ ex) (he' : ex ≤ 200000) (ht64 : 64 ≤ t) (hB : 0 < B) (hst : PSt32 8388608 K A B m tr t ex) :
    Calls Try.prog 111 #[.int .u32 (sg : Int), .int .u32 (m : Int), .int .i64 ex, .int .u32 (tr : Int)] w (PackPost32 sg 23 255 A (B * 2 ^ K) w) := by
  have H0 := L132.start hst hm0
  go_enter Try.func111, Try.ntmps111
  go_wp2_with fail
  go_loop [1, 2] (fun a b => ∃ (m' t' : Nat) (ex' : Int), a = .int .u32 (m' : Int) ∧ b = .int .i64 ex' ∧ L132 K A B m tr t ex m' t' ex') (fun a b => ms5232 a)
  case atStart => exact ⟨m, t, ex, rfl, rfl, H0⟩
  case round =>
    obtain ⟨m1, t1, ex1, rfl, rfl, h1⟩ := hrel
    obtain ⟨hb1, hb2⟩ := h1.bounds
    have hp1 := h1.pos
    by_cases hlt : (m1 : Int) < 8388608
    · obtain ⟨t2, h2⟩ := h1.step ht64 (by omega)
      go_wp2_with fail
      go_round
      case rel => exact ⟨m1 * 2, t2, ex1 - 1, by go_num, rfl, h2⟩
      case measure => simp [ms5232, intOf]; omega
    · have H2 := L232.start h1.st (by omega)
      go_wp2_with fail
      go_loop [1, 2, 3] (fun a b c => ∃ (m' t' tr' : Nat) (ex' : Int), a = .int .u32 (m' : Int) ∧ b = .int .i64 ex' ∧ c = .int .u32 (tr' : Int) ∧ L232 K A B m1 ex1 m' tr' t' ex') (fun a b c => msDown a)
      case atStart => exact ⟨m1, t1, tr, ex1, rfl, rfl, rfl, H2⟩
      case round =>
        obtain ⟨m2, t2, tr2, ex2, rfl, rfl, rfl, h2⟩ := hrel
        obtain ⟨hc1, hc2⟩ := h2.bounds
        by_cases hge : (33554432 : Int) ≤ (m2 : Int)
        · obtain ⟨tr3, e3, hl3, hs3⟩ := sticky .u32 tr2 m2 (by decide) h2.st.trlt h2.st.mlt
          obtain ⟨t3, h3⟩ := h2.step hB (by omega) tr3 hl3 hs3
          clear hl3 hs3
          go_wp2_with fail
          go_round
          case rel => exact ⟨m2 / 2, t3, tr3, ex2 + 1, by go_num, rfl, rfl, h3⟩
          case measure => simp [msDown, intOf]; omega
        · have hlo2 := h2.lo
          go_upto_if 35 with (fail)
          go_cut [1, 2] (fun a b wx => ∃ (n : Nat) (ex3 : Int), a = .int .u32 (n : Int) ∧ b = .int .i64 ex3 ∧ Normed32 K A B n ex3 ∧ ex1 ≤ ex3 ∧ ex3 ≤ ex1 + 14 ∧ wx = w)
          case first =>
            generalize hdec : decide ((16777216 : Int) ≤ (m2 : Int)) = bd
            cases bd
            · have h53 : (m2 : Int) < 16777216 := by simpa using hdec
              clear hdec
              have R := Normed32.of_exact hB h2.st (by omega) (by omega)
              go_wp2_with fail
              go_meet
              exact ⟨m2, ex2, rfl, rfl, R, by omega, by omega, rfl⟩
            · have h53 : (16777216 : Int) ≤ (m2 : Int) := by simpa using hdec
              have a1 := and_one .u32 m2 (by decide) h2.st.mlt
              have a2 := and_two .u32 m2 (by decide) h2.st.mlt
              clear hdec
              rcases Nat.mod_two_eq_zero_or_one m2 with hp | hp
              · have R := Normed32.of_down hB h2.st (by omega) (by omega) (.inl hp)
                rw [hp] at a1
                clear a2 hp
                go_wp2_with fail
                go_meet
                exact ⟨m2 / 2, ex2 + 1, by go_num, rfl, R, by omega, by omega, rfl⟩
              · by_cases hup : tr2 ≠ 0 ∨ m2 / 2 % 2 = 1
                · rw [hp] at a1
                  by_cases hc : (m2 : Int) + 1 < 33554432
                  · have R := Normed32.of_up hB h2.st (by omega) (by omega) hp hup
                    have hdc : decide ((33554432 : Int) ≤ (m2 : Int) + 1) = false := decide_eq_false (by omega)
                    clear hp
                    by_cases h0 : tr2 = 0
                    · have h2' : m2 / 2 % 2 = 1 := by omega
                      rw [h2'] at a2
                      have e0 : ((tr2 : Int) != 0) = false := by simp [h0]
                      clear h0 h2' hup
                      go_wp2_with fail
                      go_meet
                      exact ⟨(m2 + 1) / 2, ex2 + 1, by go_num, rfl, R, by omega, by omega, rfl⟩
                    · have e0 : ((tr2 : Int) != 0) = true := by simp [h0]
                      clear h0 hup a2
                      go_wp2_with fail
                      go_meet
                      exact ⟨(m2 + 1) / 2, ex2 + 1, by go_num, rfl, R, by omega, by omega, rfl⟩
                  · have R := Normed32.of_carry hB h2.st (by omega) hup
                    have hdc : decide ((33554432 : Int) ≤ (m2 : Int) + 1) = true := decide_eq_true (by omega)
                    clear hp
                    by_cases h0 : tr2 = 0
                    · have h2' : m2 / 2 % 2 = 1 := by omega
                      rw [h2'] at a2
                      have e0 : ((tr2 : Int) != 0) = false := by simp [h0]
                      clear h0 h2' hup
                      go_wp2_with fail
                      go_meet
                      exact ⟨(m2 + 1) / 2 / 2, ex2 + 1 + 1, by go_num, rfl, R, by omega, by omega, rfl⟩
                    · have e0 : ((tr2 : Int) != 0) = true := by simp [h0]
                      clear h0 hup a2
                      go_wp2_with fail
                      go_meet
                      exact ⟨(m2 + 1) / 2 / 2, ex2 + 1 + 1, by go_num, rfl, R, by omega, by omega, rfl⟩
                · have R := Normed32.of_down hB h2.st (by omega) (by omega) (.inr hup)
                  have h0 : tr2 = 0 := by omega
                  have h2' : m2 / 2 % 2 = 0 := by omega
                  have e0 : ((tr2 : Int) != 0) = false := by simp [h0]
                  rw [h2'] at a2
                  rw [hp] at a1
                  clear h0 h2' hup hp
                  go_wp2_with fail
                  go_meet
                  exact ⟨m2 / 2, ex2 + 1, by go_num, rfl, R, by omega, by omega, rfl⟩
          case rest =>
            obtain ⟨n, ex3, rfl, rfl, hN, hd1, hd2, rfl⟩ := hcut
            by_cases hr1 : 128 ≤ ex3
            · go_wp2_with fail
              go_ret
              exact pack_inf32 hsg.out hB hN hr1
            · by_cases hr2 : ex3 < -126
              · by_cases hr3 : ex3 < -150
                · go_wp2_with fail
                  go_ret
                  exact pack_zero32 hsg.out hN hr3
                · go_wp2_with fail
                  have H3 : L332 K A B ex1 m1 tr t1 ex1 := ⟨h1.st.rep, h1.st.exp, h1.st.mlt, h1.st.trlt, by omega, by omega⟩
                  go_loop [1, 2, 3] (fun a b c => ∃ (m' t' tr' : Nat) (ex' : Int), a = .int .u32 (m' : Int) ∧ b = .int .i64 ex' ∧ c = .int .u32 (tr' : Int) ∧ L332 K A B ex1 m' tr' t' ex') (fun a b c => msExp32 b)
                  case atStart => exact ⟨m1, t1, tr, ex1, rfl, rfl, rfl, H3⟩
                  case round =>
                    obtain ⟨m4, t4, tr4, ex4, rfl, rfl, rfl, h4⟩ := hrel
                    have hf1 := h4.hi
                    have hf2 := h4.lo
                    by_cases hlt4 : ex4 < -127
                    · obtain ⟨tr5, e5, hl5, hs5⟩ := sticky .u32 tr4 m4 (by decide) h4.trlt h4.mlt
                      have h5 := h4.step hB (by omega) tr5 hl5 hs5
                      clear hl5 hs5
                      go_wp2_with fail
                      go_round
                      case rel => exact ⟨m4 / 2, t4 + 1, tr5, ex4 + 1, by go_num, rfl, rfl, h5⟩
                      case measure => simp [msExp32, intOf]; omega
                    · obtain ⟨hm4, hR0⟩ := h4.least hB hlt4 hN hr2
                      have hR := Lib.hid hR0
                      clear hR0
                      obtain rfl : ex4 = -127 := by omega
                      have a1 := and_one .u32 m4 (by decide) h4.mlt
                      have a2 := and_two .u32 m4 (by decide) h4.mlt
                      rcases Nat.mod_two_eq_zero_or_one m4 with hp | hp
                      · have R := hR.out (m4 / 2) (.inr ⟨fun h' => by omega, rfl⟩)
                        rw [hp] at a1
                        clear a2 hp hR
                        have hd : decide ((m4 : Int) / 2 < 8388608) = true := decide_eq_true (by omega)
                        go_wp2_with fail
                        go_ret
                        exact pack_sub32 hsg.out R (by omega) (by omega)
                      · rw [hp] at a1
                        by_cases hup : tr4 ≠ 0 ∨ m4 / 2 % 2 = 1
                        · have R := hR.out ((m4 + 1) / 2) (.inl ⟨hp, hup, by omega⟩)
                          by_cases h0 : tr4 = 0
                          · have h2' : m4 / 2 % 2 = 1 := by omega
                            rw [h2'] at a2
                            have e0 : ((tr4 : Int) != 0) = false := by simp [h0]
                            clear h0 h2' hup hR
                            by_cases hn : m4 + 1 < 16777216
                            · have hd : decide (((m4 : Int) + 1) / 2 < 8388608) = true := decide_eq_true (by omega)
                              clear hp
                              go_wp2_with fail
                              go_ret
                              exact pack_sub32 hsg.out R (by omega) (by omega)
                            · have hd : decide (((m4 : Int) + 1) / 2 < 8388608) = false := decide_eq_false (by omega)
                              clear hp
                              go_wp2_with fail
                              go_ret
                              exact pack_sub132 hsg.out R (by omega) (by omega) (by omega)
                          · have e0 : ((tr4 : Int) != 0) = true := by simp [h0]
                            clear h0 hup a2 hR
                            by_cases hn : m4 + 1 < 16777216
                            · have hd : decide (((m4 : Int) + 1) / 2 < 8388608) = true := decide_eq_true (by omega)
                              clear hp
                              go_wp2_with fail
                              go_ret
                              exact pack_sub32 hsg.out R (by omega) (by omega)
                            · have hd : decide (((m4 : Int) + 1) / 2 < 8388608) = false := decide_eq_false (by omega)
                              clear hp
                              go_wp2_with fail
                              go_ret
                              exact pack_sub132 hsg.out R (by omega) (by omega) (by omega)
                        · have R := hR.out (m4 / 2) (.inr ⟨fun h' => hup h'.2, rfl⟩)
                          have h0 : tr4 = 0 := by omega
                          have h2' : m4 / 2 % 2 = 0 := by omega
                          have e0 : ((tr4 : Int) != 0) = false := by simp [h0]
                          rw [h2'] at a2
                          clear h0 h2' hup hp hR
                          have hd : decide ((m4 : Int) / 2 < 8388608) = true := decide_eq_true (by omega)
                          go_wp2_with fail
                          go_ret
                          exact pack_sub32 hsg.out R (by omega) (by omega)
              · go_wp2_with fail
                go_ret
                exact pack_norm32 hsg.out hB hN (by omega) (by omega)
end Go.Proofs.Ytpjanmahbimhkaa.SF
