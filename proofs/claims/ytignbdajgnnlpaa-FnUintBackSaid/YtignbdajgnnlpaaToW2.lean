/-
  The thin package's conversions to whole numbers.
-/
import Derived.Test.YtignbdajgnnlpaaToW
import Derived.Test.YtignbdajgnnlpaaToUP
import Derived.Test.YtignbdajgnnlpaaWrap32
import Derived.Test.YtignbdajgnnlpaaNarW
namespace Go.Proofs.Ytignbdajgnnlpaa.SF
open Go.ChangeShapes Go.WideShapes Go.ChangeAt Go.RowKit
set_option linter.unusedVariables false
set_option maxRecDepth 100000 in
theorem implToInt (x : Nat) (w : World) (hx : x < 18446744073709551616) : Calls Try.prog 17 #[.int .u64 (x : Int)] w (RetW (.tuple #[.int .i64 (tiV x), .bool (tiB x)]) w) := by
  have H := Lib.hid (f64toint_ret x w hx)
  generalize tiV x = v at *
  generalize tiB x = b at *
  clear hx
  go_enter Try.func17, Try.ntmps17
  go_wp2_with (first | (go_at_call 56; refine (H.out).mono ?_; rintro e w' ⟨rfl, rfl⟩) | go_in)
  go_ret2
  exact ⟨rfl, rfl⟩
set_option maxRecDepth 100000 in
theorem implToInt64 (x : Nat) (w : World) (hx : x < 18446744073709551616) : Calls Try.prog 20 #[.int .u64 (x : Int)] w (RetW (.int .i64 (tiV x)) w) := by
  have H := Lib.hid (f64toint_ret x w hx)
  generalize tiV x = v at *
  generalize tiB x = b at *
  clear hx
  go_enter Try.func20, Try.ntmps20
  go_wp2_with (first | (go_at_call 56; refine (H.out).mono ?_; rintro e w' ⟨rfl, rfl⟩) | go_in)
  go_ret
  exact ⟨rfl, rfl⟩
set_option maxRecDepth 100000 in
theorem implToInt32 (x : Nat) (w : World) (hx : x < 18446744073709551616) : Calls Try.prog 19 #[.int .u64 (x : Int)] w (RetW (.int .i32 (IntKind.i32.wrap (tiV x))) w) := by
  have H := Lib.hid (f64toint_ret x w hx)
  obtain ⟨u, hu⟩ : ∃ u, IntKind.i32.wrap (tiV x) = u := ⟨_, rfl⟩
  rw [hu]
  generalize tiV x = v at *
  generalize tiB x = b at *
  clear hx
  go_enter Try.func19, Try.ntmps19
  go_wp2_with (first | (go_at_call 56; refine (H.out).mono ?_; rintro e w' ⟨rfl, rfl⟩) | go_in)
  go_ret
  exact ⟨rfl, rfl⟩
set_option maxRecDepth 100000 in
theorem implToInt64From32 (x : Nat) (w : World) (hx : x < 4294967296) : Calls Try.prog 23 #[.int .u32 (x : Int)] w (RetW (.int .i64 (tiV (widen x))) w) := by
  have H1 := Lib.hid (f32to64_ret x w hx)
  have H := Lib.hid (f64toint_ret (widen x) w (widen_lt x))
  generalize tiV (widen x) = v at *
  generalize tiB (widen x) = b at *
  generalize widen x = y at *
  clear hx
  go_enter Try.func23, Try.ntmps23
  go_wp2_with (first | (go_at_call 56; refine (H.out).mono ?_; rintro e w' ⟨rfl, rfl⟩) | (go_at_call 76; refine (H1.out).mono ?_; rintro e w' ⟨rfl, rfl⟩) | go_in)
  go_ret
  exact ⟨rfl, rfl⟩
set_option maxRecDepth 100000 in
theorem implToInt32From32 (x : Nat) (w : World) (hx : x < 4294967296) : Calls Try.prog 22 #[.int .u32 (x : Int)] w (RetW (.int .i32 (IntKind.i32.wrap (tiV (widen x)))) w) := by
  have H1 := Lib.hid (f32to64_ret x w hx)
  have H := Lib.hid (f64toint_ret (widen x) w (widen_lt x))
  obtain ⟨u, hu⟩ : ∃ u, IntKind.i32.wrap (tiV (widen x)) = u := ⟨_, rfl⟩
  rw [hu]
  generalize tiV (widen x) = v at *
  generalize tiB (widen x) = b at *
  generalize widen x = y at *
  clear hx
  go_enter Try.func22, Try.ntmps22
  go_wp2_with (first | (go_at_call 56; refine (H.out).mono ?_; rintro e w' ⟨rfl, rfl⟩) | (go_at_call 76; refine (H1.out).mono ?_; rintro e w' ⟨rfl, rfl⟩) | go_in)
  go_ret
  exact ⟨rfl, rfl⟩
set_option maxRecDepth 100000 in
theorem f64touint64_ok (x : Nat) (w : World) (hx : x < 18446744073709551616) (hf : fin64 x = true) (hw : wh64 x < 18446744073709551616) (hn : neg64 x = true → wh64 x = 0) : Calls Try.prog 61 #[.int .u64 (x : Int)] w (RetW (.int .u64 (wh64 x : Int)) w) := by
  have nx := (fin_nan64 hf).1
  have HG := fgt64_ret 4890909195324358656 x w (by omega) hx
  rw [gt_big hx nx] at HG
  have HT := f64toint_ret x w hx
  have HA := fadd64_ret x 13555834878385192960 w hx (by omega)
  have ht : wh64 x < 9223372036854775808 → tiV x = sk (neg64 x) (wh64 x) := fun h => tiV_small hf h
  have ht2 : tiV x = tiS (neg64 x) (wh64 x) := by unfold tiV; rw [hf, decide_eq_true hw]; rfl
  have hs := fun (hn0 : neg64 x = false) (h : 9223372036854775808 ≤ wh64 x) => sub_tiny64 hx hf hn0 h
  by_cases h63 : wh64 x < 9223372036854775808
  · have hv : sk (neg64 x) (wh64 x) = (wh64 x : Int) := by
      unfold sk
      split
      · rename_i h; rw [hn h]; rfl
      · rfl
    rw [ht h63, hv] at HT
    rw [decide_eq_true h63, Bool.or_true] at HG
    have cw : IntKind.u64.wrap (wh64 x : Int) = (wh64 x : Int) := wrap_u64_nat hw
    generalize tiB x = tb at *
    generalize wh64 x = W at *
    have HG := Lib.hid HG
    have HT := Lib.hid HT
    clear hx hf hn nx ht ht2 hs HA h63 hw hv
    go_enter Try.func61, Try.ntmps61
    go_wp2_with (first | (go_at_call 77; refine (HG.out).mono ?_; rintro e w' ⟨rfl, rfl⟩) | (go_at_call 56; refine (HT.out).mono ?_; rintro e w' ⟨rfl, rfl⟩) | go_in)
    go_ret
    exact ⟨rfl, rfl⟩
  · have hn0 : neg64 x = false := by
      cases h : neg64 x
      · rfl
      · have := hn h; omega
    rw [hs hn0 (by omega)] at HA
    rw [ht2, hn0] at HT
    rw [hn0, decide_eq_false h63] at HG
    have hv : tiS false (wh64 x) = IntKind.i64.wrap (wh64 x : Int) := rfl
    rw [hv] at HT
    have cw := wrap_back hw
    have co := or_top (show 9223372036854775808 ≤ wh64 x by omega) hw
    have cm : IntKind.u64.wrap (-4890909195324358656) = 13555834878385192960 := by decide
    generalize tiB x = tb at *
    generalize wh64 x = W at *
    generalize IntKind.i64.wrap (W : Int) = iw at *
    have HG := Lib.hid HG
    have HT := Lib.hid HT
    have HA := Lib.hid HA
    clear hx hf hn nx ht ht2 hs h63 hw hv hn0
    simp only [Bool.false_or] at HG
    go_enter Try.func61, Try.ntmps61
    go_wp2_with (first | (go_at_call 77; refine (HG.out).mono ?_; rintro e w' ⟨rfl, rfl⟩) | (go_at_call 56; refine (HT.out).mono ?_; rintro e w' ⟨rfl, rfl⟩) | (go_at_call 78; refine (HA.out).mono ?_; rintro e w' ⟨rfl, rfl⟩) | go_in)
    go_ret
    exact ⟨rfl, rfl⟩
set_option maxRecDepth 100000 in
theorem f32touint64_ok (x : Nat) (w : World) (hx : x < 4294967296) (hf : fin32 x = true) (hw : wh32 x < 18446744073709551616) (hn : neg32 x = true → wh32 x = 0) : Calls Try.prog 62 #[.int .u32 (x : Int)] w (RetW (.int .u64 (wh32 x : Int)) w) := by
  have nx := (fin_nan32 hf).1
  obtain ⟨wf, wn, wv⟩ := widen_fin hf
  have ww := wh_widen hf
  have HW := Lib.hid (f32to64_ret x w hx)
  have HG := fgt32_ret 1593835520 x w (by omega) hx
  rw [widen_m, gt_big (widen_lt x) (fin_nan64 wf).1, wn, ww] at HG
  have HT := f64toint_ret (widen x) w (widen_lt x)
  have HA := fadd32_ret x 2701131776 w hx (by omega)
  have ht : wh32 x < 9223372036854775808 → tiV (widen x) = sk (neg32 x) (wh32 x) := fun h => by rw [tiV_small wf (by rw [ww]; exact h), wn, ww]
  have ht2 : tiV (widen x) = tiS (neg32 x) (wh32 x) := by unfold tiV; rw [wf, ww, decide_eq_true hw, wn]; rfl
  have hs := fun (hn0 : neg32 x = false) (h : 9223372036854775808 ≤ wh32 x) => sub_tiny32 hx hf hn0 h
  by_cases h63 : wh32 x < 9223372036854775808
  · have hv : sk (neg32 x) (wh32 x) = (wh32 x : Int) := by
      unfold sk
      split
      · rename_i h; rw [hn h]; rfl
      · rfl
    rw [ht h63, hv] at HT
    rw [decide_eq_true h63, Bool.or_true] at HG
    have cw : IntKind.u64.wrap (wh32 x : Int) = (wh32 x : Int) := wrap_u64_nat hw
    generalize tiB (widen x) = tb at *
    generalize widen x = y at *
    generalize wh32 x = W at *
    have HG := Lib.hid HG
    have HT := Lib.hid HT
    clear hx hf hn nx ht ht2 hs HA h63 hw hv wf wn wv ww
    go_enter Try.func62, Try.ntmps62
    go_wp2_with (first | (go_at_call 79; refine (HG.out).mono ?_; rintro e w' ⟨rfl, rfl⟩) | (go_at_call 56; refine (HT.out).mono ?_; rintro e w' ⟨rfl, rfl⟩) | (go_at_call 76; refine (HW.out).mono ?_; rintro e w' ⟨rfl, rfl⟩) | go_in)
    go_ret
    exact ⟨rfl, rfl⟩
  · have hn0 : neg32 x = false := by
      cases h : neg32 x
      · rfl
      · have := hn h; omega
    rw [hs hn0 (by omega)] at HA
    rw [ht2, hn0] at HT
    rw [hn0, decide_eq_false h63] at HG
    have hv : tiS false (wh32 x) = IntKind.i64.wrap (wh32 x : Int) := rfl
    rw [hv] at HT
    have cw := wrap_back hw
    have co := or_top (show 9223372036854775808 ≤ wh32 x by omega) hw
    have cm : IntKind.u32.wrap (-1593835520) = 2701131776 := by decide
    generalize tiB (widen x) = tb at *
    generalize widen x = y at *
    generalize wh32 x = W at *
    generalize IntKind.i64.wrap (W : Int) = iw at *
    have HG := Lib.hid HG
    have HT := Lib.hid HT
    have HA := Lib.hid HA
    clear hx hf hn nx ht ht2 hs h63 hw hv hn0 wf wn wv ww
    simp only [Bool.false_or] at HG
    go_enter Try.func62, Try.ntmps62
    go_wp2_with (first | (go_at_call 79; refine (HG.out).mono ?_; rintro e w' ⟨rfl, rfl⟩) | (go_at_call 56; refine (HT.out).mono ?_; rintro e w' ⟨rfl, rfl⟩) | (go_at_call 76; refine (HW.out).mono ?_; rintro e w' ⟨rfl, rfl⟩) | (go_at_call 80; refine (HA.out).mono ?_; rintro e w' ⟨rfl, rfl⟩) | go_in)
    go_ret
    exact ⟨rfl, rfl⟩
set_option maxRecDepth 100000 in
theorem implToUint64 (x : Nat) (w : World) (hx : x < 18446744073709551616) (hf : fin64 x = true) (hw : wh64 x < 18446744073709551616) (hn : neg64 x = true → wh64 x = 0) : Calls Try.prog 24 #[.int .u64 (x : Int)] w (RetW (.int .u64 (wh64 x : Int)) w) := by
  have H := Lib.hid (f64touint64_ok x w hx hf hw hn)
  clear hf hw hn
  generalize wh64 x = W at *
  clear hx
  go_enter Try.func24, Try.ntmps24
  go_wp2_with (first | (go_at_call 61; refine (H.out).mono ?_; rintro e w' ⟨rfl, rfl⟩) | go_in)
  go_ret
  exact ⟨rfl, rfl⟩
set_option maxRecDepth 100000 in
theorem implToUint64From32 (x : Nat) (w : World) (hx : x < 4294967296) (hf : fin32 x = true) (hw : wh32 x < 18446744073709551616) (hn : neg32 x = true → wh32 x = 0) : Calls Try.prog 25 #[.int .u32 (x : Int)] w (RetW (.int .u64 (wh32 x : Int)) w) := by
  have H := Lib.hid (f32touint64_ok x w hx hf hw hn)
  clear hf hw hn
  generalize wh32 x = W at *
  clear hx
  go_enter Try.func25, Try.ntmps25
  go_wp2_with (first | (go_at_call 62; refine (H.out).mono ?_; rintro e w' ⟨rfl, rfl⟩) | go_in)
  go_ret
  exact ⟨rfl, rfl⟩
end Go.Proofs.Ytignbdajgnnlpaa.SF
