/-
  The walks through the reference's numbers: digits, trim, NatOf, NatCmp.
-/
import Derived.Test.YtpjanmahbimhkaaUnpWalk
import Derived.Test.YtpjanmahbimhkaaFrame
namespace Go.Proofs.Ytpjanmahbimhkaa.SF
open Go.ChangeShapes Go.WideShapes Go.ChangeAt Go.RowKit
set_option linter.unusedVariables false

/-- The slice value '.slice A n cap' holds the digits ds. -/
structure Row (w : World) (A : Option Addr) (n cap : Nat) (ds : List Nat) : Prop where
  len : ds.length = n
  cap : n ≤ cap
  small : ∀ d ∈ ds, d < 4294967296
  cells : 0 < n → ∃ g, A = some ⟨g, 0, none⟩ ∧ g < w.heap.size ∧ ∀ i, i < n → w.cell? ⟨g, i, none⟩ = some (.int .u32 ((ds.getD i 0 : Nat) : Int))

theorem Row.below {w w' : World} {A : Option Addr} {n cap : Nat} {ds : List Nat} (h : Row w A n cap ds) (hb : Below w.heap.size w w') : Row w' A n cap ds :=
  ⟨h.len, h.cap, h.small, fun hn => by
    obtain ⟨g, e, hg, hc⟩ := h.cells hn
    exact ⟨g, e, Nat.lt_of_lt_of_le hg hb.size, fun i hi => (hb.cell (p := ⟨g, i, none⟩) hg).trans (hc i hi)⟩⟩

theorem digit_lt {ds : List Nat} (h : ∀ d ∈ ds, d < 4294967296) (i : Nat) : ds.getD i 0 < 4294967296 := by
  rw [List.getD_eq_getElem?_getD]
  by_cases hi : i < ds.length
  · rw [List.getElem?_eq_getElem hi]
    exact h _ (List.getElem_mem hi)
  · rw [List.getElem?_eq_none (by omega)]
    simp

set_option maxRecDepth 100000 in
theorem digit_any (w : World) (A : Option Addr) (n cap i : Nat) (ds : List Nat) (h : Row w A n cap ds) (hn : n ≤ 4000000) (hi : i ≤ 4000000) :
    Calls Try.prog 68 #[.slice A n cap, .int .i64 (i : Int)] w fun e w' => e = .returned (.int .u64 ((ds.getD i 0 : Nat) : Int)) ∧ w = w' := by
  have hd := digit_lt h.small i
  by_cases hlt : i < n
  · obtain ⟨g, rfl, hg, hc⟩ := h.cells (by omega)
    have hci := hc i hlt
    generalize ds.getD i 0 = d at *
    have H := Lib.hid h
    clear h hc
    go_enter Try.func68, Try.ntmps68
    go_wp2_with fail
    go_ret
    exact ⟨rfl, rfl⟩
  · have e : ds.getD i 0 = 0 := by
      rw [List.getD_eq_getElem?_getD, List.getElem?_eq_none (by rw [h.len]; omega)]; rfl
    rw [e]
    clear e hd h
    go_enter Try.func68, Try.ntmps68
    go_wp2_with fail
    go_ret
    exact ⟨rfl, rfl⟩

theorem Row.take {w : World} {A : Option Addr} {n cap : Nat} {ds : List Nat} (h : Row w A n cap ds) (k : Nat) (hk : k ≤ n) : Row w A k cap (ds.take k) :=
  ⟨by rw [List.length_take, h.len]; omega, by have := h.cap; omega, fun d hd => h.small d (List.mem_of_mem_take hd), fun hn => by
    obtain ⟨g, e, hg, hc⟩ := h.cells (by omega)
    refine ⟨g, e, hg, fun i hi => ?_⟩
    rw [hc i (by omega)]
    simp [List.getD_eq_getElem?_getD, hi]⟩

/-- what the digits stand for -/
def dval : List Nat → Nat
  | [] => 0
  | d :: ds => d + 4294967296 * dval ds

theorem dval_take {ds : List Nat} (k : Nat) (h : ∀ i, k ≤ i → ds.getD i 0 = 0) : dval (ds.take k) = dval ds := by
  induction ds generalizing k with
  | nil => simp
  | cons d ds ih =>
    cases k with
    | zero =>
      have h0 := h 0 (by omega)
      have e : ∀ i, 0 ≤ i → ds.getD i 0 = 0 := fun i _ => by have := h (i + 1) (by omega); simpa using this
      have := ih 0 e
      simp at h0 this
      simp [dval, h0, ← this]
    | succ k =>
      have e : ∀ i, k ≤ i → ds.getD i 0 = 0 := fun i hi => by have := h (i + 1) (by omega); simpa using this
      simp [dval, ih k e]

/-- The slice value v is the number N (digits to the base 2 to the power of 32, the highest one not 0). -/
def NatAt (w : World) (v : Value) (N : Nat) : Prop := ∃ A k cap ds, v = .slice A k cap ∧ Row w A k cap ds ∧ dval ds = N ∧ (k = 0 ∨ ds.getD (k - 1) 0 ≠ 0)

theorem NatAt.below {w w' : World} {v : Value} {N : Nat} (h : NatAt w v N) (hb : Below w.heap.size w w') : NatAt w' v N := by
  obtain ⟨A, k, cap, ds, e, hr, hd, hl⟩ := h
  exact ⟨A, k, cap, ds, e, hr.below hb, hd, hl⟩

def TrimRel (A : Option Addr) (n cap : Nat) (ds : List Nat) (v : Value) : Prop := ∃ k, v = .slice A k cap ∧ k ≤ n ∧ ∀ i, k ≤ i → ds.getD i 0 = 0
def sliceLen : Value → Nat
  | .slice _ k _ => k
  | _ => 0
def msLen (v : Value) : Nat := sliceLen v

def NatPost (w : World) (N : Nat) : Ending → World → Prop := fun e w' => ∃ v, e = .returned v ∧ NatAt w' v N ∧ Below w.heap.size w w'

set_option maxRecDepth 100000 in
theorem trim_any (w : World) (A : Option Addr) (n cap : Nat) (ds : List Nat) (h : Row w A n cap ds) (hn : n ≤ 4000000) :
    Calls Try.prog 69 #[.slice A n cap] w fun e w' => ∃ v, e = .returned v ∧ NatAt w v (dval ds) ∧ w = w' := by
  have hcap := h.cap
  have H0 : TrimRel A n cap ds (.slice A n cap) := ⟨n, rfl, Nat.le_refl _, fun i hi => by
    rw [List.getD_eq_getElem?_getD, List.getElem?_eq_none (by rw [h.len]; omega)]; rfl⟩
  have H := Lib.hid h
  clear h
  go_enter Try.func69, Try.ntmps69
  go_wp2_with fail
  go_loop [0] (fun v => TrimRel A n cap ds v) (fun v => msLen v)
  case atStart => exact H0
  case round =>
    obtain ⟨k, rfl, hk, hz⟩ := hrel
    have HZ := Lib.hid hz
    clear hz H0
    by_cases hk0 : k = 0
    · subst hk0
      go_wp2_with fail
      go_ret
      exact ⟨_, rfl, ⟨A, 0, cap, ds.take 0, rfl, H.out.take 0 (by omega), dval_take 0 HZ.out, .inl rfl⟩, rfl⟩
    · obtain ⟨g, rfl, hg, hc⟩ := H.out.cells (by omega)
      have hck := hc (k - 1) (by omega)
      have hd := digit_lt H.out.small (k - 1)
      clear hc
      by_cases hd0 : ds.getD (k - 1) 0 = 0
      · rw [hd0] at hck
        have R : TrimRel (some ⟨g, 0, none⟩) n cap ds (.slice (some ⟨g, 0, none⟩) (k - 1) cap) := ⟨k - 1, rfl, by omega, fun i hi => by
          by_cases e : i = k - 1
          · rw [e]; exact hd0
          · exact HZ.out i (by omega)⟩
        have HR := Lib.hid R
        clear hd hd0 R
        go_wp2_with fail
        go_round
        case rel => exact HR.out
        case measure => simp [msLen, sliceLen]; omega
      · have e0 : (((ds.getD (k - 1) 0 : Nat) : Int) == 0) = false := beq_eq_false_iff_ne.mpr (by omega)
        have HD := Lib.hid hd0
        clear hd0
        generalize hgen : ds.getD (k - 1) 0 = d at *
        have HG := Lib.hid hgen
        clear hgen
        go_wp2_with fail
        go_ret
        exact ⟨_, rfl, ⟨_, k, cap, ds.take k, rfl, H.out.take k hk, dval_take k HZ.out, .inr (by
          have : (ds.take k).getD (k - 1) 0 = ds.getD (k - 1) 0 := by
            rw [List.getD_eq_getElem?_getD, List.getElem?_take, if_pos (by omega), ← List.getD_eq_getElem?_getD]
          rw [this, HG.out]; exact HD.out)⟩, rfl⟩

theorem Row.of_list (w : World) (ds : List Nat) (hs : ∀ d ∈ ds, d < 4294967296) (t : TypeId) :
    Row (w.alloc (.cells (ds.map fun d : Nat => Value.int .u32 (d : Int)).toArray t)) (some ⟨w.heap.size, 0, none⟩) ds.length ds.length ds :=
  ⟨rfl, Nat.le_refl _, hs, fun _ => ⟨w.heap.size, rfl, by simp, fun i hi => by
    rw [World.cell?_alloc_new]
    simp [List.getD_eq_getElem?_getD, hi]⟩⟩

set_option maxRecDepth 100000 in
theorem natOf_any (w : World) (x : Nat) (hx : x < 18446744073709551616) : Calls Try.prog 37 #[.int .u64 (x : Int)] w (NatPost w x) := by
  have e1 : IntKind.u32.wrap (x : Int) = ((x % 4294967296 : Nat) : Int) := by rw [IntKind.wrap_u32']; omega
  have e2 : IntKind.u32.wrap ((x : Int) / 4294967296) = ((x / 4294967296 : Nat) : Int) := by rw [IntKind.wrap_u32']; omega
  have hr : Row (w.alloc (.cells #[.int .u32 ((x % 4294967296 : Nat) : Int), .int .u32 ((x / 4294967296 : Nat) : Int)] 35)) (some ⟨w.heap.size, 0, none⟩) 2 2 [x % 4294967296, x / 4294967296] := Row.of_list w [x % 4294967296, x / 4294967296] (by simp; omega) 35
  have hv : dval [x % 4294967296, x / 4294967296] = x := by simp [dval]; omega
  generalize x % 4294967296 = d0 at *
  generalize x / 4294967296 = d1 at *
  have HT := Lib.hid (trim_any _ _ _ _ _ hr (by simp))
  have HV := Lib.hid hv
  clear hx hr hv
  go_enter Try.func37, Try.ntmps37
  go_wp2_with fail
  refine (HT.out).mono ?_
  rintro e w' ⟨v, rfl, hn, rfl⟩
  rw [HV.out] at hn
  have HN := Lib.hid hn
  clear hn
  go_wp2_with fail
  go_ret
  exact ⟨_, rfl, HN.out, (Below.refl _ _).alloc (Nat.le_refl _) _⟩

/-- the digits f 0, f 1, .. below place n -/
def dvf (f : Nat → Nat) : Nat → Nat
  | 0 => 0
  | n + 1 => dvf f n + f n * 2 ^ (32 * n)

theorem pow32_succ (n : Nat) : 2 ^ (32 * (n + 1)) = 4294967296 * 2 ^ (32 * n) := by
  rw [Nat.mul_add, Nat.pow_add, Nat.mul_comm]

theorem dvf_lt {f : Nat → Nat} (h : ∀ i, f i < 4294967296) (n : Nat) : dvf f n < 2 ^ (32 * n) := by
  induction n with
  | zero => simp [dvf]
  | succ n ih =>
    rw [dvf, pow32_succ]
    have h1 : f n * 2 ^ (32 * n) ≤ 4294967295 * 2 ^ (32 * n) := Nat.mul_le_mul_right _ (by have := h n; omega)
    omega

theorem dvf_congr {f g : Nat → Nat} (n : Nat) (h : ∀ i, i < n → f i = g i) : dvf f n = dvf g n := by
  induction n with
  | zero => rfl
  | succ n ih => rw [dvf, dvf, ih (fun i hi => h i (by omega)), h n (by omega)]

theorem dvf_zero {f : Nat → Nat} {m n : Nat} (hmn : m ≤ n) (h : ∀ i, m ≤ i → f i = 0) : dvf f n = dvf f m := by
  induction n with
  | zero => have : m = 0 := by omega
            subst this; rfl
  | succ n ih =>
    by_cases hm : m = n + 1
    · rw [hm]
    · rw [dvf, ih (by omega), h n (by omega)]; simp

theorem dvf_cons (d : Nat) (ds : List Nat) (m : Nat) : dvf (fun i => (d :: ds).getD i 0) (m + 1) = d + 4294967296 * dvf (fun i => ds.getD i 0) m := by
  induction m with
  | zero => simp [dvf]
  | succ m ih =>
    rw [dvf, ih, dvf, pow32_succ, Nat.mul_add, ← Nat.add_assoc]
    congr 1
    simp
    rw [Nat.mul_left_comm]

theorem dval_dvf (ds : List Nat) : dval ds = dvf (fun i => ds.getD i 0) ds.length := by
  induction ds with
  | nil => rfl
  | cons d ds ih => rw [dval, List.length_cons, dvf_cons, ih]

theorem getD_ge (ds : List Nat) (i : Nat) (h : ds.length ≤ i) : ds.getD i 0 = 0 := by
  rw [List.getD_eq_getElem?_getD, List.getElem?_eq_none h]; rfl

theorem dval_eq (ds : List Nat) (m : Nat) (h : ds.length ≤ m) : dval ds = dvf (fun i => ds.getD i 0) m := by
  rw [dval_dvf, dvf_zero h (fun i hi => getD_ge ds i hi)]

theorem dvf_lt_of_top {f g : Nat → Nat} {k : Nat} (hf : ∀ i, f i < 4294967296) (hlt : f k < g k) : ∀ M, k < M → (∀ i, k < i → f i = g i) → dvf f M < dvf g M := by
  intro M
  induction M with
  | zero => omega
  | succ M ih =>
    intro hk he
    by_cases hM : k = M
    · subst hM
      rw [dvf, dvf]
      have h1 := dvf_lt hf k
      have h2 : (f k + 1) * 2 ^ (32 * k) ≤ g k * 2 ^ (32 * k) := Nat.mul_le_mul_right _ hlt
      rw [Nat.add_mul, Nat.one_mul] at h2
      omega
    · have := ih (by omega) he
      rw [dvf, dvf, he M (by omega)]
      omega

def cmpI (a b : Nat) : Int := if a < b then -1 else if a = b then 0 else 1

def CmpRel (ds es : List Nat) (v : Value) : Prop := ∃ k : Nat, v = .int .i64 ((k : Int) - 1) ∧ k ≤ 4000000 ∧ ∀ i, k ≤ i → ds.getD i 0 = es.getD i 0
def msCmp (v : Value) : Nat := (intOf v + 1).toNat

theorem dlt_of_top {ds es : List Nat} {k : Nat} (hs : ∀ d ∈ ds, d < 4294967296) (hlt : ds.getD k 0 < es.getD k 0) (heq : ∀ i, k + 1 ≤ i → ds.getD i 0 = es.getD i 0) : dval ds < dval es := by
  rw [dval_eq ds (ds.length + es.length + k + 1) (by omega), dval_eq es (ds.length + es.length + k + 1) (by omega)]
  exact dvf_lt_of_top (fun i => digit_lt hs i) hlt _ (by omega) (fun i hi => heq i hi)

theorem deq_of {ds es : List Nat} (heq : ∀ i, 0 ≤ i → ds.getD i 0 = es.getD i 0) : dval ds = dval es := by
  rw [dval_eq ds (max ds.length es.length) (by omega), dval_eq es (max ds.length es.length) (by omega)]
  exact dvf_congr _ (fun i _ => heq i (by omega))

set_option maxRecDepth 100000 in
theorem natCmp_any (w : World) (A : Option Addr) (n cap : Nat) (ds : List Nat) (A' : Option Addr) (n' cap' : Nat) (es : List Nat) (h : Row w A n cap ds) (h' : Row w A' n' cap' es) (hn : n ≤ 4000000) (hn' : n' ≤ 4000000) :
    Calls Try.prog 35 #[.slice A n cap, .slice A' n' cap'] w fun e w' => e = .returned (.int .i64 (cmpI (dval ds) (dval es))) ∧ w = w' := by
  have D1 := Lib.hid fun i => digit_any w A n cap i ds h hn
  have D2 := Lib.hid fun i => digit_any w A' n' cap' i es h' hn'
  have H := Lib.hid h
  have H' := Lib.hid h'
  have H0 : ∀ k : Nat, k ≤ 4000000 → n ≤ k → n' ≤ k → CmpRel ds es (.int .i64 ((k : Int) - 1)) := fun k hk h1 h2 => ⟨k, rfl, hk, fun i hi => by
    rw [getD_ge ds i (by rw [h.len]; omega), getD_ge es i (by rw [h'.len]; omega)]⟩
  have HH := Lib.hid H0
  clear h h' H0
  go_enter Try.func35, Try.ntmps35
  go_wp2_with fail
  all_goals
    go_loop [5] (fun v => CmpRel ds es v) (fun v => msCmp v)
    case atStart => exact HH.out _ (by omega) (by omega) (by omega)
    case round =>
      obtain ⟨k, rfl, hk, hz⟩ := hrel
      have HZ := Lib.hid hz
      clear hz
      by_cases hk0 : k = 0
      · subst hk0
        go_wp2_with fail
        go_ret
        refine ⟨?_, rfl⟩
        have := deq_of HZ.out
        unfold cmpI
        rw [if_neg (by omega), if_pos this]
        rfl
      · obtain ⟨j, rfl⟩ : ∃ j, k = j + 1 := ⟨k - 1, by omega⟩
        have ej : ((j + 1 : Nat) : Int) - 1 = (j : Int) := by omega
        rw [ej]
        have C1 := Lib.hid (D1.out j (by omega))
        have C2 := Lib.hid (D2.out j (by omega))
        generalize h1 : ds.getD j 0 = d1 at C1
        generalize h2 : es.getD j 0 = d2 at C2
        have G1 := Lib.hid h1
        have G2 := Lib.hid h2
        clear ej h1 h2 hk0
        by_cases hlt : (d1 : Int) < (d2 : Int)
        · have hd : decide ((d1 : Int) < (d2 : Int)) = true := decide_eq_true hlt
          go_wp2_with fail
          refine (C1.out).mono ?_
          rintro e w' ⟨rfl, rfl⟩
          go_wp2_with fail
          refine (C2.out).mono ?_
          rintro e w' ⟨rfl, rfl⟩
          go_wp2_with fail
          go_ret
          refine ⟨?_, rfl⟩
          have := dlt_of_top (es := es) (k := j) H.out.small (by rw [G1.out, G2.out]; omega) HZ.out
          unfold cmpI
          rw [if_pos this]
          rfl
        · have hd : decide ((d1 : Int) < (d2 : Int)) = false := decide_eq_false hlt
          by_cases hgt : (d2 : Int) < (d1 : Int)
          · have hd2 : decide ((d2 : Int) < (d1 : Int)) = true := decide_eq_true hgt
            go_wp2_with fail
            refine (C1.out).mono ?_
            rintro e w' ⟨rfl, rfl⟩
            go_wp2_with fail
            refine (C2.out).mono ?_
            rintro e w' ⟨rfl, rfl⟩
            go_wp2_with fail
            go_ret
            refine ⟨?_, rfl⟩
            have := dlt_of_top (es := ds) (k := j) H'.out.small (by rw [G1.out, G2.out]; omega) (fun i hi => (HZ.out i hi).symm)
            unfold cmpI
            rw [if_neg (by omega), if_neg (by omega)]
            rfl
          · have hd2 : decide ((d2 : Int) < (d1 : Int)) = false := decide_eq_false hgt
            have R : CmpRel ds es (.int .i64 ((j : Int) - 1)) := ⟨j, rfl, by omega, fun i hi => by
              by_cases e : i = j
              · rw [e, G1.out, G2.out]; omega
              · exact HZ.out i (by omega)⟩
            have HR := Lib.hid R
            clear R
            go_wp2_with fail
            refine (C1.out).mono ?_
            rintro e w' ⟨rfl, rfl⟩
            go_wp2_with fail
            refine (C2.out).mono ?_
            rintro e w' ⟨rfl, rfl⟩
            go_wp2_with fail
            go_round
            case rel => exact HR.out
            case measure => simp [msCmp, intOf]

end Go.Proofs.Ytpjanmahbimhkaa.SF
