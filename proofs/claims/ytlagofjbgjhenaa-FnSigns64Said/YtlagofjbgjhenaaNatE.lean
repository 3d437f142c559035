/-
  The walks through the reference's numbers: NatMul.
-/
import Derived.Test.YtlagofjbgjhenaaNatD
import Derived.Deep.QuietTactic
import Derived.BigQuiet
import Derived.Deep.Draws
namespace Go.Proofs.Ytlagofjbgjhenaa.SF
open Go.ChangeShapes Go.WideShapes Go.ChangeAt Go.RowKit
set_option linter.unusedVariables false

/-- block g is just these digits -/
def Blk (w : World) (g : Nat) (rs : List Nat) : Prop := w.heap[g]? = some (.cells (u32s rs).toArray 33 (0, 0)) ∧ ∀ d ∈ rs, d < 4294967296

theorem Blk.lt {w : World} {g : Nat} {rs : List Nat} (h : Blk w g rs) : g < w.heap.size := by
  rcases Nat.lt_or_ge g w.heap.size with hlt | hge
  · exact hlt
  · have := h.1; rw [Array.getElem?_eq_none hge] at this; cases this
theorem Blk.cell {w : World} {g : Nat} {rs : List Nat} (h : Blk w g rs) (i : Nat) (hi : i < rs.length) : w.cell? ⟨g, i, none⟩ = some (.int .u32 ((rs.getD i 0 : Nat) : Int)) := by
  rw [cell_of_row w g i _ _ (0, 0) h.1]
  simp [u32s, List.getD_eq_getElem?_getD, hi]
theorem Blk.frozen {w : World} {g : Nat} {rs : List Nat} (h : Blk w g rs) (i : Nat) : w.frozen? ⟨g, i, none⟩ = false := by
  simp [World.frozen?, h.1]
theorem Blk.set_ {w : World} {g : Nat} {rs : List Nat} (h : Blk w g rs) (i d : Nat) (hd : d < 4294967296) : Blk (w.setCell ⟨g, i, none⟩ (.int .u32 (d : Int))) g (rs.set i d) := by
  refine ⟨?_, fun x hx => ?_⟩
  · simp only [World.setCell, Array.getElem?_modify, h.1, if_true, Option.map_some]
    simp [u32s, List.map_set]
  · rcases List.mem_or_eq_of_mem_set hx with h1 | h1
    · exact h.2 x h1
    · omega
theorem Blk.row {w : World} {g : Nat} {rs : List Nat} (h : Blk w g rs) : Row w (some ⟨g, 0, none⟩) rs.length rs.length rs :=
  ⟨rfl, Nat.le_refl _, h.2, fun _ => ⟨g, rfl, h.lt, fun i hi => h.cell i hi⟩⟩
theorem Blk.of_own {w : World} {B g : Nat} {rs : List Nat} (h : Own w B (.slice (some ⟨g, 0, none⟩) rs.length rs.length) rs) : Blk w g rs := by
  obtain ⟨⟨hl, ⟨he, _⟩ | ⟨g', cap, cur, he, hB, hh, hcap, _, hsz, htk⟩⟩, hs⟩ := h
  · cases he
  · injection he with h1 h2 h3
    injection h1 with h1
    injection h1 with h1
    subst h1 h3
    refine ⟨?_, hs⟩
    rw [hh]
    have : cur = (u32s rs).toArray := by
      apply Array.ext'
      rw [← htk]
      exact (List.take_of_length_le (by rw [← hsz]; simp)).symm
    rw [this]

theorem getD_set_ne {rs : List Nat} {i j d : Nat} (h : i ≠ j) : (rs.set i d).getD j 0 = rs.getD j 0 := by
  simp [List.getD_eq_getElem?_getD, h]
theorem dval_set (rs : List Nat) (i d : Nat) (hi : i < rs.length) : dval (rs.set i d) + rs.getD i 0 * 2 ^ (32 * i) = dval rs + d * 2 ^ (32 * i) := by
  induction rs generalizing i with
  | nil => simp at hi
  | cons r rs ih =>
    cases i with
    | zero => simp [dval]; omega
    | succ i =>
      have := ih i (by simpa using hi)
      rw [List.set_cons_succ, dval, dval, pow32_succ]
      simp only [List.getD_cons_succ]
      have e1 : rs.getD i 0 * (4294967296 * 2 ^ (32 * i)) = 4294967296 * (rs.getD i 0 * 2 ^ (32 * i)) := by rw [Nat.mul_left_comm]
      have e2 : d * (4294967296 * 2 ^ (32 * i)) = 4294967296 * (d * 2 ^ (32 * i)) := by rw [Nat.mul_left_comm]
      rw [e1, e2]
      omega

structure MulO (B g n n' : Nat) (w : World) (ds es : List Nat) (i : Value) (wr : World) : Prop where
  ex : ∃ (k : Nat) (rs : List Nat), i = .int .i64 (k : Int) ∧ rs.length = n + n' ∧ Blk wr g rs ∧ dval rs = dvf (fun i => ds.getD i 0) k * dval es ∧ (∀ j, k + n' ≤ j → rs.getD j 0 = 0) ∧ Below B w wr ∧ k ≤ n
structure MulI (B g n n' i : Nat) (w : World) (ds es : List Nat) (c k : Value) (wr : World) : Prop where
  ex : ∃ (m cy : Nat) (rs : List Nat), k = .int .i64 (m : Int) ∧ c = .int .u64 (cy : Int) ∧ rs.length = n + n' ∧ Blk wr g rs ∧
    dval rs + cy * 2 ^ (32 * (i + m)) = dvf (fun i => ds.getD i 0) i * dval es + ds.getD i 0 * dvf (fun i => es.getD i 0) m * 2 ^ (32 * i) ∧ (∀ j, i + n' ≤ j → rs.getD j 0 = 0) ∧ Below B w wr ∧ m ≤ n' ∧ cy < 4294967296

theorem mul_step {es rs : List Nat} {i m cy a b o X : Nat} (h : dval rs + cy * 2 ^ (32 * (i + m)) = X + a * dvf (fun i => es.getD i 0) m * 2 ^ (32 * i)) (hl : i + m < rs.length) (ho : rs.getD (i + m) 0 = o) (hb : es.getD m 0 = b) :
    dval (rs.set (i + m) ((cy + (o + a * b)) % 4294967296)) + (cy + (o + a * b)) / 4294967296 * 2 ^ (32 * (i + (m + 1))) = X + a * dvf (fun i => es.getD i 0) (m + 1) * 2 ^ (32 * i) := by
  have hset := dval_set rs (i + m) ((cy + (o + a * b)) % 4294967296) hl
  rw [ho] at hset
  rw [dvf, Nat.mul_add a, Nat.add_mul, ← Nat.add_assoc i m 1, pow32_succ]
  simp only [hb]
  have e1 : a * (b * 2 ^ (32 * m)) * 2 ^ (32 * i) = a * b * 2 ^ (32 * (i + m)) := by
    rw [← Nat.mul_assoc, Nat.mul_assoc (a * b), ← Nat.pow_add, show 32 * m + 32 * i = 32 * (i + m) by omega]
  rw [e1]
  have hdm := Nat.div_add_mod (cy + (o + a * b)) 4294967296
  have e4 : (4294967296 * ((cy + (o + a * b)) / 4294967296) + (cy + (o + a * b)) % 4294967296) * 2 ^ (32 * (i + m)) = (cy + (o + a * b)) * 2 ^ (32 * (i + m)) := by rw [hdm]
  rw [Nat.add_mul, Nat.add_mul, Nat.add_mul] at e4
  generalize (cy + (o + a * b)) / 4294967296 = Q at *
  generalize (cy + (o + a * b)) % 4294967296 = R at *
  have e5 : Q * (4294967296 * 2 ^ (32 * (i + m))) = 4294967296 * Q * 2 ^ (32 * (i + m)) := by rw [← Nat.mul_assoc, Nat.mul_comm Q]
  rw [e5]
  omega

theorem mul_end {ds es rs : List Nat} {i n' cy : Nat} (h : dval rs + cy * 2 ^ (32 * (i + n')) = dvf (fun i => ds.getD i 0) i * dval es + ds.getD i 0 * dvf (fun i => es.getD i 0) n' * 2 ^ (32 * i)) (hn : es.length = n') (hl : i + n' < rs.length) (hz : rs.getD (i + n') 0 = 0) :
    dval (rs.set (i + n') cy) = dvf (fun i => ds.getD i 0) (i + 1) * dval es := by
  have hset := dval_set rs (i + n') cy hl
  rw [hz] at hset
  rw [← dval_eq es n' (by omega)] at h
  rw [dvf, Nat.add_mul, Nat.mul_right_comm (ds.getD i 0)]
  omega

theorem below_set {B : Nat} {w wr : World} {g i : Nat} {v : Value} (h : Below B w wr) (hg : B ≤ g) : Below B w (wr.setCell ⟨g, i, none⟩ v) := h.setCell (p := ⟨g, i, none⟩) hg v

set_option maxRecDepth 100000 in
set_option maxHeartbeats 4000000 in
theorem natMul_any (w : World) (A : Option Addr) (n cap : Nat) (ds : List Nat) (A' : Option Addr) (n' cap' : Nat) (es : List Nat) (h : Row w A n cap ds) (h' : Row w A' n' cap' es) (hn : n ≤ 1000000) (hn' : n' ≤ 1000000) :
    Calls Try.prog 47 #[.slice A n cap, .slice A' n' cap'] w (NatPost w (dval ds * dval es)) := by
  obtain ⟨i0, hi0, hz0, hz1, hz2⟩ := info_parts info_u32
  have H := Lib.hid h
  have H' := Lib.hid h'
  obtain ⟨B, hBd⟩ : ∃ B, B = w.heap.size := ⟨_, rfl⟩
  obtain ⟨N, hN⟩ : ∃ N, N = n + n' := ⟨_, rfl⟩
  have eN : (n : Int) + (n' : Int) = (N : Int) := by omega
  have hN2 : N ≤ 2000000 := by omega
  have HN := Lib.hid hN
  have HB := Lib.hid hBd
  clear h h' hBd hN
  go_enter Try.func47, Try.ntmps47
  go_wp2_with (at_make; refine wpList_make_full _ rfl _ _ 43 rfl B 33 i0 (.int .u32 0) 1 Try.underlying43 hi0 hz0 hz1 .i64 .i64 _ _ N rfl rfl (by first | rfl | omega) (by first | rfl | omega) (by rw [hz2]; omega) (by unfold maxLen; omega) (by rw [HB.out]; exact Nat.le_refl _) ?_; intro w0 hown0 hgrow0)
  have H0 : MulO B w.heap.size n n' w ds es (.int .i64 0) w0 := by
    have ho := own_made hown0
    refine ⟨0, List.replicate N 0, rfl, by simp [HN.out], Blk.of_own (B := B) (by simpa using ho), by simp [dvf, dval_replicate], fun j _ => ?_, ?_, by omega⟩
    · simp [List.getD_eq_getElem?_getD, List.getElem?_replicate]; split <;> rfl
    · exact (Below.refl B w).grown hgrow0 (by rw [HB.out]; exact Nat.le_refl _) (by intro k hk; cases hk)
  clear hown0 hgrow0
  rw [← HB.out] at H0
  have hBB : B ≤ w.heap.size := by rw [HB.out]; exact Nat.le_refl _
  obtain ⟨g, hgd⟩ : ∃ g, g = w.heap.size := ⟨_, rfl⟩
  rw [← hgd]
  rw [HB.out, ← hgd] at H0
  have hBg : B = g := by rw [HB.out, hgd]
  rw [← hBg] at H0 ⊢
  clear hgd hBg hBB
  go_loopw [6, 7, 8] (fun i c k wr => MulO B B n n' w ds es i wr) (fun i c k wr => msSub n i)
  case atStart => exact H0
  case round =>
    obtain ⟨i, rs, rfl, hrs, hblk, hval, hz, hbel, hin⟩ := hrel.ex
    clear hrel H0
    have HV := Lib.hid hval
    have HZ := Lib.hid hz
    have HR := Lib.hid hrs
    have HK := Lib.hid hblk
    have HBL := Lib.hid hbel
    clear hval hz hrs hblk hbel
    by_cases hgo : i < n
    · obtain ⟨wo, rfl⟩ : ∃ wo : World, wo = wr := ⟨_, rfl⟩
      go_wp2_with fail
      have HI0 : MulI B B n n' i w ds es (.int .u64 0) (.int .i64 0) wo := ⟨0, 0, rs, rfl, rfl, HR.out, HK.out, by rw [HV.out]; simp [dvf], HZ.out, HBL.out, by omega, by omega⟩
      go_loopw [7, 8] (fun c k wr => MulI B B n n' i w ds es c k wr) (fun c k wr => msSub n' k)
      case atStart => exact HI0
      case round =>
        obtain ⟨m, cy, rs2, rfl, rfl, hrs2, hblk2, hval2, hz2', hbel2, hmn, hcy⟩ := hrel.ex
        clear hrel HI0 HV HZ HR HK HBL
        have HV := Lib.hid hval2
        have HZ := Lib.hid hz2'
        have HR := Lib.hid hrs2
        have HK := Lib.hid hblk2
        have HBL := Lib.hid hbel2
        clear hval2 hz2' hrs2 hblk2 hbel2
        by_cases hm : m < n'
        · obtain ⟨g1, rfl, hg1, hc1⟩ := (H.out.below (by rw [← HB.out]; exact HBL.out)).cells (by omega)
          obtain ⟨g2, rfl, hg2, hc2⟩ := (H'.out.below (by rw [← HB.out]; exact HBL.out)).cells (by omega)
          have ha := hc1 i hgo
          have hb := hc2 m hm
          have hNN := HN.out
          have ho := HK.out.cell (i + m) (by rw [HR.out]; omega)
          have hal := digit_lt H.out.small i
          have hbl := digit_lt H'.out.small m
          have hol := digit_lt HK.out.2 (i + m)
          have hstep := mul_step (es := es) (X := dvf (fun i => ds.getD i 0) i * dval es) HV.out (by rw [HR.out]; omega) rfl rfl
          have HS := Lib.hid hstep
          clear hstep
          obtain ⟨a, hga⟩ : ∃ a, ds.getD i 0 = a := ⟨_, rfl⟩
          rw [hga] at ha hal
          generalize es.getD m 0 = b at *
          generalize rs2.getD (i + m) 0 = o at *
          rw [hga] at HS
          have c1 : IntKind.u64.wrap (o : Int) = (o : Int) := wrap_u64_nat (by omega)
          have c2 : IntKind.u64.wrap (a : Int) = (a : Int) := wrap_u64_nat (by omega)
          have c3 : IntKind.u64.wrap (b : Int) = (b : Int) := wrap_u64_nat (by omega)
          have hpp : a * b ≤ 4294967295 * 4294967295 := Nat.mul_le_mul (by omega) (by omega)
          have r1 : IntKind.u64.wrap ((a : Int) * (b : Int)) = ((a * b : Nat) : Int) := by rw [← Int.natCast_mul]; exact wrap_u64_nat (by omega)
          have r2 : IntKind.u64.wrap ((o : Int) + ((a * b : Nat) : Int)) = ((o + a * b : Nat) : Int) := by rw [← Int.natCast_add]; exact wrap_u64_nat (by omega)
          have r3 : IntKind.u64.wrap ((cy : Int) + ((o + a * b : Nat) : Int)) = ((cy + (o + a * b) : Nat) : Int) := by rw [← Int.natCast_add]; exact wrap_u64_nat (by omega)
          have w1 : IntKind.u32.wrap ((cy + (o + a * b) : Nat) : Int) = (((cy + (o + a * b)) % 4294967296 : Nat) : Int) := by rw [IntKind.wrap_u32']; omega
          have w2 : ((cy + (o + a * b) : Nat) : Int) / 4294967296 = (((cy + (o + a * b)) / 4294967296 : Nat) : Int) := by omega
          have hlo : (cy + (o + a * b)) % 4294967296 < 4294967296 := Nat.mod_lt _ (by omega)
          have hcy2 : (cy + (o + a * b)) / 4294967296 < 4294967296 := by omega
          generalize (cy + (o + a * b)) % 4294967296 = lo at *
          generalize (cy + (o + a * b)) / 4294967296 = cy2 at *
          generalize cy + (o + a * b) = x at *
          generalize o + a * b = q at *
          generalize a * b = p at *
          have hfz := HK.out.frozen (i + m)
          have HGA := Lib.hid hga
          have HLO := Lib.hid hlo
          have HCY := Lib.hid hcy2
          have hiN : (i : Int) + (m : Int) < (N : Int) := by omega
          have hi0' : 0 ≤ (i : Int) + (m : Int) := by omega
          have s1 : IntKind.i64.wrap ((i : Int) + (m : Int)) = (i : Int) + (m : Int) := IntWalk.i64_in _ (by omega)
          have s2 : ((i : Int) + (m : Int)).toNat = i + m := by omega
          clear hga hlo hcy2 hpp hc1 hc2 hNN hal hbl hol
          go_wp2_with fail
          go_quiet (fail)
          clear s1 s2
          go_wp2_with fail
          have hK2 := HK.out.set_ (i + m) lo HLO.out
          have hB2 := below_set (i := i + m) (v := .int .u32 (lo : Int)) HBL.out (Nat.le_refl B)
          go_roundw
          case rel =>
            refine ⟨m + 1, cy2, rs2.set (i + m) lo, by go_num, rfl, by rw [List.length_set]; exact HR.out, ?_, by rw [HGA.out]; exact HS.out, fun j hj => ?_, ?_, by omega, HCY.out⟩
            · exact hK2
            · rw [getD_set_ne (by omega)]; exact HZ.out j hj
            · exact ⟨hB2.os, hB2.tape, hB2.output, hB2.size, hB2.block⟩
          case measure => simp [msSub, intOf]; omega
        · have hmn2 : m = n' := by omega
          subst hmn2
          have hNN := HN.out
          have hend := mul_end HV.out H'.out.len (by rw [HR.out]; omega) (HZ.out _ (Nat.le_refl _))
          have ho := HK.out.cell (i + m) (by rw [HR.out]; omega)
          have hfz := HK.out.frozen (i + m)
          have w1 : IntKind.u32.wrap (cy : Int) = (cy : Int) := wrap_u32_nat hcy
          have HE := Lib.hid hend
          have HCY := Lib.hid hcy
          clear hend hcy hNN
          go_wp2_with fail
          go_roundw
          case rel =>
            refine ⟨i + 1, rs2.set (i + m) cy, by go_num, by rw [List.length_set]; exact HR.out, HK.out.set_ (i + m) cy HCY.out, HE.out, fun j hj => ?_, below_set HBL.out (Nat.le_refl B), by omega⟩
            rw [getD_set_ne (by omega)]; exact HZ.out j (by omega)
          case measure => simp [msSub, intOf]; omega
    · have hr1 := HK.out.row
      have hlen : rs.length ≤ 2000000 := by rw [HR.out]; omega
      have hNl : N = rs.length := by rw [HR.out]; exact HN.out
      have HT := Lib.hid (trim_any _ _ _ _ _ hr1 (by omega))
      have hv : dval rs = dval ds * dval es := by
        rw [HV.out, ← dval_eq ds i (by rw [H.out.len]; omega)]
      have HVV := Lib.hid hv
      subst hNl
      clear hr1 hv
      go_wp2_with fail
      refine (HT.out).mono ?_
      rintro e w' ⟨v, rfl, hn, rfl⟩
      rw [HVV.out] at hn
      have HN2 := Lib.hid hn
      clear hn
      go_wp2_with fail
      go_ret
      exact ⟨_, rfl, HN2.out, by rw [← HB.out]; exact HBL.out⟩
end Go.Proofs.Ytlagofjbgjhenaa.SF
