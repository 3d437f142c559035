/-
  The walks through the reference's numbers: NatSub, NatLen, NatShl.
-/
import Derived.Test.YtdadcbjhjmdheaaNatB
import Derived.Laws.OwnMore
namespace Go.Proofs.Ytdadcbjhjmdheaa.SF
open Go.ChangeShapes Go.WideShapes Go.ChangeAt Go.RowKit
set_option linter.unusedVariables false

theorem dvf_mod {f : Nat → Nat} (hf : ∀ i, f i < 4294967296) (n : Nat) : ∀ m, n ≤ m → ∃ q, dvf f m = dvf f n + q * 2 ^ (32 * n) := by
  intro m
  induction m with
  | zero => intro h; exact ⟨0, by have : n = 0 := by omega
                                  subst this; simp⟩
  | succ m ih =>
    intro h
    by_cases hm : n = m + 1
    · exact ⟨0, by rw [hm]; simp⟩
    · obtain ⟨q, hq⟩ := ih (by omega)
      refine ⟨q + f m * 2 ^ (32 * (m - n)), ?_⟩
      rw [dvf, hq, Nat.add_mul, Nat.mul_assoc, ← Nat.pow_add, show 32 * (m - n) + 32 * n = 32 * m by omega]
      omega

def msSub (n : Nat) (i : Value) : Nat := n - (intOf i).toNat
structure SubRel (B : Nat) (w : World) (n : Nat) (ds es : List Nat) (v c i : Value) (wr : World) : Prop where
  ex : ∃ (k bo : Nat) (rs : List Nat), i = .int .i64 (k : Int) ∧ c = .int .u64 (bo : Int) ∧ rs.length = k ∧ Own wr B v rs ∧
    dvf (fun i => ds.getD i 0) k + bo * 2 ^ (32 * k) = dvf (fun i => es.getD i 0) k + dval rs ∧ bo ≤ 1 ∧ Below B w wr ∧ k ≤ n

theorem sub_step {ds es rs : List Nat} {k bo d1 d2 x : Nat} (hk : rs.length = k) (h : dvf (fun i => ds.getD i 0) k + bo * 2 ^ (32 * k) = dvf (fun i => es.getD i 0) k + dval rs) (e1 : ds.getD k 0 = d1) (e2 : es.getD k 0 = d2)
    (hx : x + d2 + bo = 4294967296 + d1) (hx2 : x < 8589934592) :
    dvf (fun i => ds.getD i 0) (k + 1) + (1 - x / 4294967296) * 2 ^ (32 * (k + 1)) = dvf (fun i => es.getD i 0) (k + 1) + dval (rs ++ [x % 4294967296]) := by
  rw [dval_append, hk, dvf, dvf, pow32_succ]
  simp only [e1, e2]
  have hp : (x + d2 + bo) * 2 ^ (32 * k) = (4294967296 + d1) * 2 ^ (32 * k) := by rw [hx]
  rw [Nat.add_mul, Nat.add_mul, Nat.add_mul] at hp
  rcases Nat.lt_or_ge x 4294967296 with hlt | hge
  · rw [Nat.div_eq_of_lt hlt, Nat.mod_eq_of_lt hlt]
    omega
  · have e3 : x / 4294967296 = 1 := by omega
    have e4 : x % 4294967296 = x - 4294967296 := by omega
    have e5 : (x - 4294967296) * 2 ^ (32 * k) = x * 2 ^ (32 * k) - 4294967296 * 2 ^ (32 * k) := Nat.sub_mul _ _ _
    rw [e3, e4, e5]
    have : 4294967296 * 2 ^ (32 * k) ≤ x * 2 ^ (32 * k) := Nat.mul_le_mul_right _ hge
    omega

theorem sub_last {ds es rs : List Nat} {n bo : Nat} (hs : ∀ d ∈ ds, d < 4294967296) (hs' : ∀ d ∈ es, d < 4294967296) (hn : ds.length = n) (hr : rs.length = n) (hrs : ∀ d ∈ rs, d < 4294967296)
    (h : dvf (fun i => ds.getD i 0) n + bo * 2 ^ (32 * n) = dvf (fun i => es.getD i 0) n + dval rs) (hle : dval es ≤ dval ds) (hb : bo ≤ 1) : dval rs = dval ds - dval es := by
  obtain ⟨q, hq⟩ := dvf_mod (f := fun i => es.getD i 0) (fun i => digit_lt hs' i) n (max n es.length) (by omega)
  rw [← dval_eq es _ (by omega)] at hq
  rw [← dval_eq ds n (by omega)] at h
  have a1 := dval_lt hs
  have a2 := dval_lt hrs
  rw [hn] at a1
  rw [hr] at a2
  rcases Nat.eq_zero_or_pos q with h0 | h0
  · subst h0
    rcases (show bo = 0 ∨ bo = 1 by omega) with hb0 | hb0
    · subst hb0; omega
    · subst hb0; omega
  · have : 2 ^ (32 * n) ≤ q * 2 ^ (32 * n) := Nat.le_mul_of_pos_left _ h0
    omega

set_option maxRecDepth 100000 in
set_option maxHeartbeats 1000000 in
theorem natSub_any (w : World) (A : Option Addr) (n cap : Nat) (ds : List Nat) (A' : Option Addr) (n' cap' : Nat) (es : List Nat) (h : Row w A n cap ds) (h' : Row w A' n' cap' es) (hn : n ≤ 3000000) (hn' : n' ≤ 3000000) (hle : dval es ≤ dval ds) :
    Calls Try.prog 60 #[.slice A n cap, .slice A' n' cap'] w (NatPost w (dval ds - dval es)) := by
  obtain ⟨i0, hi0, hz0, hz1, hz2⟩ := info_parts info_u32
  have H := Lib.hid h
  have H' := Lib.hid h'
  have HL := Lib.hid hle
  have H0 : SubRel w.heap.size w n ds es (.slice none 0 0) (.int .u64 0) (.int .i64 0) w := ⟨0, 0, [], rfl, rfl, rfl, Own.nil _ _, by simp [dvf, dval], by omega, Below.refl _ _, by omega⟩
  obtain ⟨B, hBd⟩ : ∃ B, B = w.heap.size := ⟨_, rfl⟩
  rw [← hBd] at H0
  have HB := Lib.hid hBd
  clear h h' hBd hle
  go_enter Try.func60, Try.ntmps60
  go_wp2_with fail
  go_loopw [5, 6, 7, 8] (fun v c i x wr => SubRel B w n ds es v c i wr) (fun v c i x wr => msSub n i)
  case atStart => exact H0
  case round =>
    obtain ⟨k, bo, rs, rfl, rfl, hrs, hown, hval, hcy, hbel, hkM⟩ := hrel.ex
    clear hrel H0
    have hrow := H.out.below (by rw [← HB.out]; exact hbel)
    have hrow' := H'.out.below (by rw [← HB.out]; exact hbel)
    have C1 := Lib.hid (digit_any _ _ _ _ k _ hrow (by omega) (by omega))
    have C2 := Lib.hid (digit_any _ _ _ _ k _ hrow' (by omega) (by omega))
    have hd1 := digit_lt H.out.small k
    have hd2 := digit_lt H'.out.small k
    have HV := Lib.hid hval
    have HR := Lib.hid hrs
    have HO := Lib.hid hown
    have HBL := Lib.hid hbel
    generalize h1 : ds.getD k 0 = d1 at C1 hd1
    generalize h2 : es.getD k 0 = d2 at C2 hd2
    have G1 := Lib.hid h1
    have G2 := Lib.hid h2
    clear h1 h2 hval hrow hrow' hrs hown hbel
    by_cases hgo : k < n
    · obtain ⟨x, hx⟩ : ∃ x, x + d2 + bo = 4294967296 + d1 := ⟨4294967296 + d1 - d2 - bo, by omega⟩
      have hx2 : x < 8589934592 := by omega
      have hval2 := sub_step HR.out HV.out G1.out G2.out hx hx2
      have w0 : 4294967296 + (d1 : Int) - (d2 : Int) - (bo : Int) = (x : Int) := by omega
      have w1 : IntKind.u32.wrap (x : Int) = ((x % 4294967296 : Nat) : Int) := by rw [IntKind.wrap_u32']; omega
      have w2 : (x : Int) / 4294967296 = ((x / 4294967296 : Nat) : Int) := by omega
      have w3 : 1 - ((x / 4294967296 : Nat) : Int) = ((1 - x / 4294967296 : Nat) : Int) := by omega
      have hq1 : x / 4294967296 ≤ 1 := by omega
      have hlo : x % 4294967296 < 4294967296 := Nat.mod_lt _ (by omega)
      generalize x % 4294967296 = lo at *
      generalize x / 4294967296 = q at *
      have hbo2 : 1 - q ≤ 1 := by omega
      generalize 1 - q = bo2 at *
      have HV2 := Lib.hid hval2
      have HLO := Lib.hid hlo
      have HX := Lib.hid hx
      have hlen : rs.length ≤ 3000001 := by rw [HR.out]; omega
      have hBsz : B ≤ wr.heap.size := by have := HBL.out.size; rw [HB.out]; exact this
      clear hval2 hlo hx
      go_wp2_with fail
      refine (C1.out).mono ?_
      rintro e w' ⟨rfl, rfl⟩
      go_wp2_with fail
      refine (C2.out).mono ?_
      rintro e w' ⟨rfl, rfl⟩
      go_wp2_with (at_builtin; refine wpList_append_own _ rfl _ _ 46 rfl B 22 i0 (.int .u32 0) 1 4 Try.underlying46 hi0 hz0 hz1 hz2 rfl (by decide) _ _ _ rfl (HO.out.1.alloc _) ⟨wr.heap.size, 0, none⟩ 1 1 [.int .u32 (lo : Int)] rfl rfl (cell_one_new _ _ _) (by simp [Value.oneCell']) (by unfold maxLen; omega) (by omega) (by simp; omega) ?_; intro v' w1 hown' hgrow _)
      have hown2 := HO.out.push HLO.out hown'
      have hbel2 := below_append _ HBL.out (by rw [HB.out]; exact Nat.le_refl _) HO.out hgrow
      go_roundw
      case rel => exact ⟨k + 1, bo2, rs ++ [lo], by go_num, rfl, by simp [HR.out], hown2, HV2.out, hbo2, hbel2, by omega⟩
      case measure => simp [msSub, intOf]; omega
    · have hkn : k = n := by omega
      obtain ⟨A1, cap1, rfl, hr1⟩ := HO.out.row
      have HT := Lib.hid (trim_any _ _ _ _ _ hr1 (by rw [HR.out]; omega))
      have hv : dval rs = dval ds - dval es := sub_last (n := n) H.out.small H'.out.small H.out.len (by rw [HR.out]; exact hkn) HO.out.2 (by rw [← hkn]; exact HV.out) HL.out hcy
      have HVV := Lib.hid hv
      clear hr1 hv hkn
      go_wp2_with fail
      refine (HT.out).mono ?_
      rintro e w' ⟨v, rfl, hn, rfl⟩
      rw [HVV.out] at hn
      have HN := Lib.hid hn
      clear hn
      go_wp2_with fail
      go_ret
      exact ⟨_, rfl, HN.out, by rw [← HB.out]; exact HBL.out⟩

/-- how many binary digits -/
def blen (N : Nat) : Nat := if N = 0 then 0 else N.log2 + 1

theorem log2_eq {N k : Nat} (h1 : 2 ^ k ≤ N) (h2 : N < 2 ^ (k + 1)) : N.log2 = k := by
  have h0 : N ≠ 0 := by have := two_pow_pos k; omega
  have a := (Nat.le_log2 h0).mpr h1
  have b := (Nat.log2_lt h0).mpr h2
  omega

theorem blen_top {ds : List Nat} {n d : Nat} (hs : ∀ d ∈ ds, d < 4294967296) (hn : ds.length = n + 1) (hd : ds.getD n 0 = d) (h0 : d ≠ 0) : blen (dval ds) = 32 * n + (d.log2 + 1) := by
  have e : dval ds = dvf (fun i => ds.getD i 0) n + d * 2 ^ (32 * n) := by
    rw [dval_eq ds (n + 1) (by omega), dvf, hd]
  have hlt := dvf_lt (f := fun i => ds.getD i 0) (fun i => digit_lt hs i) n
  have h1 := log2_pow_le (n := d) (by omega)
  have h2 := log2_pow_lt d
  have hp := two_pow_pos (32 * n)
  have l1 : 2 ^ (32 * n + d.log2) ≤ dval ds := by
    rw [e, Nat.pow_add, Nat.mul_comm]
    have := Nat.mul_le_mul_right (2 ^ (32 * n)) h1
    omega
  have l2 : dval ds < 2 ^ (32 * n + d.log2 + 1) := by
    rw [e, Nat.add_assoc, Nat.pow_add, Nat.mul_comm (2 ^ (32 * n))]
    have := Nat.mul_le_mul_right (2 ^ (32 * n)) (show d + 1 ≤ 2 ^ (d.log2 + 1) by omega)
    rw [Nat.add_mul, Nat.one_mul] at this
    omega
  unfold blen
  rw [if_neg (by have := two_pow_pos (32 * n + d.log2); omega), log2_eq l1 l2]
  omega

def LenRel (n d : Nat) (a b : Value) : Prop := ∃ i : Nat, a = .int .i64 (((32 * n + i : Nat)) : Int) ∧ b = .int .u32 ((d / 2 ^ i : Nat) : Int) ∧ i ≤ d.log2 + 1
def msTop (b : Value) : Nat := (intOf b).toNat

theorem top_zero {d i : Nat} (h0 : d ≠ 0) (hi : i ≤ d.log2 + 1) (h : d / 2 ^ i = 0) : i = d.log2 + 1 := by
  have h1 := log2_pow_le (n := d) (by omega)
  rcases Nat.lt_or_ge i (d.log2 + 1) with hlt | hge
  · have : 2 ^ i ≤ d := Nat.le_trans (Nat.pow_le_pow_right (by omega) (by omega)) h1
    have := (Nat.le_div_iff_mul_le (two_pow_pos i)).mpr (show 1 * 2 ^ i ≤ d by omega)
    omega
  · omega
theorem top_more {d i : Nat} (hi : i ≤ d.log2 + 1) (h : d / 2 ^ i ≠ 0) : i + 1 ≤ d.log2 + 1 := by
  rcases Nat.lt_or_ge i (d.log2 + 1) with hlt | hge
  · omega
  · have he : i = d.log2 + 1 := by omega
    have h2 := log2_pow_lt d
    rw [← he] at h2
    exact absurd (Nat.div_eq_of_lt h2) h

set_option maxRecDepth 100000 in
set_option maxHeartbeats 1000000 in
theorem natLen_any (w : World) (A : Option Addr) (n cap : Nat) (ds : List Nat) (h : Row w A n cap ds) (hn : n ≤ 3000000) (htop : n = 0 ∨ ds.getD (n - 1) 0 ≠ 0) :
    Calls Try.prog 90 #[.slice A n cap] w fun e w' => e = .returned (.int .i64 ((blen (dval ds) : Nat) : Int)) ∧ w = w' := by
  have H := Lib.hid h
  by_cases hn0 : n = 0
  · subst hn0
    have e : ds = [] := List.length_eq_zero_iff.mp h.len
    subst e
    clear h htop
    go_enter Try.func90, Try.ntmps90
    go_wp2_with fail
    go_ret
    exact ⟨rfl, rfl⟩
  · obtain ⟨m, rfl⟩ : ∃ m, n = m + 1 := ⟨n - 1, by omega⟩
    obtain ⟨g, rfl, hg, hc⟩ := h.cells (by omega)
    have hcm := hc m (by omega)
    have hd0 : ds.getD m 0 ≠ 0 := by
      rcases htop with h0 | h0
      · omega
      · simpa using h0
    have hdl := digit_lt h.small m
    have hbl := blen_top h.small h.len rfl hd0
    generalize ds.getD m 0 = d at *
    have HBL := Lib.hid hbl
    have HD := Lib.hid hd0
    have HDL := Lib.hid hdl
    have hlog : d.log2 < 32 := by
      have h1 := log2_pow_le (n := d) (by omega)
      have : 2 ^ d.log2 < 2 ^ 32 := by omega
      exact (Nat.pow_lt_pow_iff_right (by omega)).mp this
    clear h htop hc hbl hd0 hn0 hdl
    have em : ((m + 1 : Nat) : Int) - 1 = (m : Int) := by omega
    have em2 : (m + 1 - 1) = m := by omega
    go_enter Try.func90, Try.ntmps90
    go_wp2_with fail
    go_loop [3, 4] (fun a b => LenRel m d a b) (fun a b => msTop b)
    case atStart => exact ⟨0, by go_num, by simp, by omega⟩
    case round =>
      obtain ⟨i, rfl, rfl, hi⟩ := hrel
      generalize hq : d / 2 ^ i = q
      have HQ := Lib.hid hq
      have hql : q < 4294967296 := by rw [← hq]; exact Nat.lt_of_le_of_lt (Nat.div_le_self _ _) HDL.out
      clear hq
      have hi33 : i ≤ 33 := by omega
      by_cases hq0 : q = 0
      · have hlast := top_zero HD.out hi (by rw [HQ.out]; exact hq0)
        have HLA := Lib.hid hlast
        clear hlast
        subst hq0
        go_wp2_with fail
        go_ret
        refine ⟨?_, rfl⟩
        rw [HBL.out, ← HLA.out]
        rfl
      · have hmore := top_more hi (by rw [HQ.out]; exact hq0)
        have hqp : 0 < q := by omega
        clear hq0
        go_wp2_with fail
        go_round
        case rel => exact ⟨i + 1, by go_num, by rw [Nat.pow_succ, ← Nat.div_div_eq_div_mul, HQ.out]; go_num, hmore⟩
        case measure => simp [msTop, intOf]; omega
end Go.Proofs.Ytdadcbjhjmdheaa.SF
