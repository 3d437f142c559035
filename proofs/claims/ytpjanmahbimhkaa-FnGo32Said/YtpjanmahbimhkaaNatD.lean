/-
  The walks through the reference's numbers: NatShl.
-/
import Derived.Test.YtpjanmahbimhkaaNatC
namespace Go.Proofs.Ytpjanmahbimhkaa.SF
open Go.ChangeShapes Go.WideShapes Go.ChangeAt Go.RowKit
set_option linter.unusedVariables false

theorem dval_replicate (q : Nat) : dval (List.replicate q 0) = 0 := by
  induction q with
  | zero => rfl
  | succ q ih => rw [List.replicate_succ, dval, ih]

theorem own_made {w : World} {B q : Nat} {v : Value} (h : w.ownsRow B 35 1 v q (madeCells (Value.int .u32 0).cells (q * 1)).toList) : Own w B v (List.replicate q 0) := by
  refine ⟨?_, fun d hd => by have := List.eq_of_mem_replicate hd; omega⟩
  rw [List.length_replicate]
  have e : (madeCells (Value.int .u32 0).cells (q * 1)).toList = u32s (List.replicate q 0) := by
    show (madeCells #[Value.int .u32 0] (q * 1)).toList = _
    rw [toList_madeCells_one, Nat.mul_one]
    simp [u32s]
  rw [← e]; exact h

structure ShlRel (B : Nat) (w : World) (s q r n : Nat) (ds : List Nat) (v c i : Value) (wr : World) : Prop where
  ex : ∃ (k cy : Nat) (rs : List Nat), i = .int .i64 (k : Int) ∧ c = .int .u64 (cy : Int) ∧ rs.length = q + k ∧ Own wr B v rs ∧
    dval rs + cy * 2 ^ (32 * (q + k)) = dvf (fun i => ds.getD i 0) k * 2 ^ s ∧ cy < 2 ^ r ∧ Below B w wr ∧ k ≤ n

theorem shl_step {ds rs : List Nat} {s q r k cy d : Nat} (hs : s = 32 * q + r) (hr : r < 32) (hd : d < 4294967296) (hcy : cy < 2 ^ r) (hk : rs.length = q + k) (h : dval rs + cy * 2 ^ (32 * (q + k)) = dvf (fun i => ds.getD i 0) k * 2 ^ s) (e1 : ds.getD k 0 = d) :
    dval (rs ++ [(cy + d * 2 ^ r) % 4294967296]) + (cy + d * 2 ^ r) / 4294967296 * 2 ^ (32 * (q + (k + 1))) = dvf (fun i => ds.getD i 0) (k + 1) * 2 ^ s ∧ (cy + d * 2 ^ r) / 4294967296 < 2 ^ r ∧ cy + d * 2 ^ r < 18446744073709551616 := by
  have hp : 2 ^ r ≤ 2147483648 := by
    have : 2 ^ r ≤ 2 ^ 31 := Nat.pow_le_pow_right (by omega) (by omega)
    exact this
  have hpp := two_pow_pos r
  have hx : d * 2 ^ r ≤ 4294967295 * 2 ^ r := Nat.mul_le_mul_right _ (by omega)
  refine ⟨?_, ?_, by omega⟩
  · rw [dval_append, hk, dvf, ← Nat.add_assoc, pow32_succ]
    simp only [e1]
    have e2 : (dvf (fun i => ds.getD i 0) k + d * 2 ^ (32 * k)) * 2 ^ s = dvf (fun i => ds.getD i 0) k * 2 ^ s + d * 2 ^ r * 2 ^ (32 * (q + k)) := by
      rw [Nat.add_mul, Nat.mul_assoc, Nat.mul_assoc, ← Nat.pow_add, ← Nat.pow_add, show 32 * k + s = r + 32 * (q + k) by omega]
    rw [e2, ← h]
    have hdm := Nat.div_add_mod (cy + d * 2 ^ r) 4294967296
    have e3 : (cy + d * 2 ^ r) * 2 ^ (32 * (q + k)) = cy * 2 ^ (32 * (q + k)) + d * 2 ^ r * 2 ^ (32 * (q + k)) := Nat.add_mul _ _ _
    have e4 : (4294967296 * ((cy + d * 2 ^ r) / 4294967296) + (cy + d * 2 ^ r) % 4294967296) * 2 ^ (32 * (q + k)) = (cy + d * 2 ^ r) * 2 ^ (32 * (q + k)) := by rw [hdm]
    generalize (cy + d * 2 ^ r) / 4294967296 = Q at *
    generalize (cy + d * 2 ^ r) % 4294967296 = R at *
    rw [Nat.add_mul] at e4
    have e5 : Q * (4294967296 * 2 ^ (32 * (q + k))) = 4294967296 * Q * 2 ^ (32 * (q + k)) := by rw [← Nat.mul_assoc, Nat.mul_comm Q]
    rw [e5]
    omega
  · rw [Nat.div_lt_iff_lt_mul (by omega)]
    omega

theorem or_carry {cy d r : Nat} (hr : r < 32) (hcy : cy < 2 ^ r) (hd : d < 4294967296) (hx : cy + d * 2 ^ r < 18446744073709551616) : bits .or .u64 (cy : Int) (IntKind.u64.wrap ((d : Int) * 2 ^ r)) = ((cy + d * 2 ^ r : Nat) : Int) := by
  have c1 : ((d : Int) * 2 ^ r) = ((d * 2 ^ r : Nat) : Int) := by simp
  rw [c1, wrap_u64_nat (by omega), u64_or_nat _ _ (by omega) (by omega), Nat.or_comm, or_disjoint _ _ r (Nat.mul_mod_left _ _) hcy, Nat.add_comm]

set_option maxRecDepth 100000 in
set_option maxHeartbeats 1000000 in
theorem natShl_any (w : World) (A : Option Addr) (n cap : Nat) (ds : List Nat) (s : Nat) (h : Row w A n cap ds) (hn : n ≤ 1000000) (hs : s ≤ 32000000) :
    Calls Try.prog 36 #[.slice A n cap, .int .i64 (s : Int)] w (NatPost w (dval ds * 2 ^ s)) := by
  obtain ⟨i0, hi0, hz0, hz1, hz2⟩ := info_parts info_u32
  have H := Lib.hid h
  obtain ⟨q, hq⟩ : ∃ q, q = s / 32 := ⟨_, rfl⟩
  obtain ⟨r, hr⟩ : ∃ r, r = s % 32 := ⟨_, rfl⟩
  have hsq : s = 32 * q + r := by omega
  have hr32 : r < 32 := by omega
  have eq1 : (s : Int) / 32 = (q : Int) := by omega
  have er1 : (s : Int) % 32 = (r : Int) := by omega
  have hq1 : q ≤ 1000000 := by omega
  obtain ⟨B, hBd⟩ : ∃ B, B = w.heap.size := ⟨_, rfl⟩
  have HB := Lib.hid hBd
  have HSQ := Lib.hid hsq
  clear h hBd hq hr hsq
  go_enter Try.func36, Try.ntmps36
  go_wp2_with (at_make; refine wpList_make_full _ rfl _ _ 50 rfl B 35 i0 (.int .u32 0) 1 Try.underlying50 hi0 hz0 hz1 .i64 .i64 _ _ q rfl rfl (by first | rfl | omega) (by first | rfl | omega) (by rw [hz2]; omega) (by unfold maxLen; omega) (by rw [HB.out]; exact Nat.le_refl _) ?_; intro w0 hown0 hgrow0)
  have H0 : ShlRel B w s q r n ds (.slice (some ⟨w.heap.size, 0, none⟩) q q) (.int .u64 0) (.int .i64 0) w0 := by
    refine ⟨0, 0, List.replicate q 0, rfl, rfl, by simp, own_made hown0, by simp [dvf, dval_replicate], two_pow_pos r, ?_, by omega⟩
    exact (Below.refl B w).grown hgrow0 (by rw [HB.out]; exact Nat.le_refl _) (by intro k hk; cases hk)
  clear hown0 hgrow0
  go_loopw [5, 6, 7] (fun v c i wr => ShlRel B w s q r n ds v c i wr) (fun v c i wr => msSub n i)
  case atStart => exact H0
  case round =>
    obtain ⟨k, cy, rs, rfl, rfl, hrs, hown, hval, hcy, hbel, hkM⟩ := hrel.ex
    clear hrel H0
    have hrow := H.out.below (by rw [← HB.out]; exact hbel)
    have HV := Lib.hid hval
    have HR := Lib.hid hrs
    have HO := Lib.hid hown
    have HBL := Lib.hid hbel
    have HCY := Lib.hid hcy
    have hlen : rs.length ≤ 2000001 := by rw [hrs]; omega
    have hBsz : B ≤ wr.heap.size := by have := hbel.size; rw [HB.out]; exact this
    have hcyl : cy < 2147483648 := Nat.lt_of_lt_of_le hcy (by
      have : 2 ^ r ≤ 2 ^ 31 := Nat.pow_le_pow_right (by omega) (by omega)
      exact this)
    clear hval hrs hown hbel hcy
    by_cases hgo : k < n
    · obtain ⟨g, hA, hg, hc⟩ := hrow.cells (by omega)
      have hck := hc k hgo
      have hd := digit_lt H.out.small k
      generalize h1 : ds.getD k 0 = d at hck hd
      obtain ⟨hval2, hcy2, hx⟩ := shl_step HSQ.out hr32 hd HCY.out HR.out HV.out h1
      have ho := or_carry hr32 HCY.out hd hx
      have w1 : IntKind.u32.wrap ((cy + d * 2 ^ r : Nat) : Int) = (((cy + d * 2 ^ r) % 4294967296 : Nat) : Int) := by rw [IntKind.wrap_u32']; omega
      have w2 : ((cy + d * 2 ^ r : Nat) : Int) / 4294967296 = (((cy + d * 2 ^ r) / 4294967296 : Nat) : Int) := by omega
      have hlo : (cy + d * 2 ^ r) % 4294967296 < 4294967296 := Nat.mod_lt _ (by omega)
      generalize (cy + d * 2 ^ r) % 4294967296 = lo at *
      generalize (cy + d * 2 ^ r) / 4294967296 = cy2 at *
      generalize cy + d * 2 ^ r = x at *
      have HV2 := Lib.hid hval2
      have HLO := Lib.hid hlo
      have HC2 := Lib.hid hcy2
      have HA := Lib.hid hA
      rw [hA]
      clear hval2 hlo hcy2 hx hc h1 hrow hA
      go_wp2_with (at_builtin; refine wpList_append_own _ rfl _ _ 50 rfl B 35 i0 (.int .u32 0) 1 4 Try.underlying50 hi0 hz0 hz1 hz2 rfl (by decide) _ _ _ rfl (HO.out.1.alloc _) ⟨wr.heap.size, 0, none⟩ 1 1 [.int .u32 (lo : Int)] rfl rfl (cell_one_new _ _ _) (by simp [Value.oneCell']) (by unfold maxLen; omega) (by omega) (by simp; omega) ?_; intro v' w1 hown' hgrow _)
      have hown2 := HO.out.push HLO.out hown'
      have hbel2 := below_append _ HBL.out (by rw [HB.out]; exact Nat.le_refl _) HO.out hgrow
      go_roundw
      case rel => exact ⟨k + 1, cy2, rs ++ [lo], by go_num, rfl, by simp [HR.out, Nat.add_assoc], hown2, HV2.out, HC2.out, hbel2, by omega⟩
      case measure => simp [msSub, intOf]; omega
    · have w1 : IntKind.u32.wrap (cy : Int) = (cy : Int) := wrap_u32_nat (by omega)
      have hv : dval (rs ++ [cy]) = dval ds * 2 ^ s := by
        rw [dval_append, HR.out, HV.out, ← dval_eq ds k (by rw [H.out.len]; omega)]
      have HVV := Lib.hid hv
      clear hv hrow
      go_wp2_with (at_builtin; refine wpList_append_own _ rfl _ _ 50 rfl B 35 i0 (.int .u32 0) 1 4 Try.underlying50 hi0 hz0 hz1 hz2 rfl (by decide) _ _ _ rfl (HO.out.1.alloc _) ⟨wr.heap.size, 0, none⟩ 1 1 [.int .u32 (cy : Int)] rfl rfl (cell_one_new _ _ _) (by simp [Value.oneCell']) (by unfold maxLen; omega) (by omega) (by simp; omega) ?_; intro v' w1 hown' hgrow _)
      have hown2 := HO.out.push (d := cy) (by omega) hown'
      have hbel2 := below_append _ HBL.out (by rw [HB.out]; exact Nat.le_refl _) HO.out hgrow
      obtain ⟨A1, cap1, rfl, hr1⟩ := hown2.row
      have HT := Lib.hid (trim_any _ _ _ _ _ hr1 (by simp; omega))
      have HB2 := Lib.hid hbel2
      clear hown' hgrow hown2 hbel2 hr1
      refine (HT.out).mono ?_
      rintro e w' ⟨v, rfl, hn, rfl⟩
      rw [HVV.out] at hn
      have HN := Lib.hid hn
      clear hn
      go_wp2_with fail
      go_ret
      exact ⟨_, rfl, HN.out, by rw [← HB.out]; exact HB2.out⟩
end Go.Proofs.Ytpjanmahbimhkaa.SF
