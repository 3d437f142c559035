/-
  The small functions of softfloat and of the thin package.
-/
import Derived.Test.YtdadcbjhjmdheaaMulWalk
import Derived.Test.YtdadcbjhjmdheaaFDiv
import Derived.Test.YtdadcbjhjmdheaaNarW
import Derived.Test.YtdadcbjhjmdheaaAlg
namespace Go.Proofs.Ytdadcbjhjmdheaa.SF
open Go.ChangeShapes Go.WideShapes Go.ChangeAt Go.RowKit
set_option linter.unusedVariables false
theorem widen_lt (x : Nat) : widen x < 18446744073709551616 := by
  unfold widen
  split
  · omega
  · split
    · exact sgn_lt64 _ (by omega)
    · exact rd_lt64 _ _ _
theorem narrow_lt (x : Nat) : narrow x < 4294967296 := by
  unfold narrow
  split
  · omega
  · split
    · exact sgn_lt32 _ (by omega)
    · exact rd_lt32 _ _ _

set_option maxRecDepth 100000 in
theorem fneg64_ret (x : Nat) (w : World) (hx : x < 18446744073709551616) : Calls Try.prog 89 #[.int .u64 (x : Int)] w (RetW (.int .u64 ((flip64 x : Nat) : Int)) w) := by
  have f := xor_flip164 hx
  generalize flip64 x = g0 at *
  clear hx 
  go_enter Try.func89, Try.ntmps89
  go_wp2_with fail
  go_ret
  exact ⟨rfl, rfl⟩
set_option maxRecDepth 100000 in
theorem fsub64_ret (x : Nat) (y : Nat) (w : World) (hx : x < 18446744073709551616) (hy : y < 18446744073709551616) : Calls Try.prog 74 #[.int .u64 (x : Int), .int .u64 (y : Int)] w (RetW (.int .u64 ((add64 x (flip64 y) : Nat) : Int)) w) := by
  have K0 := fneg64_ret y w hy
  have K1 := fadd64_ret x (flip64 y) w hx (flip_lt64 y)
  generalize add64 x (flip64 y) = g0 at *
  generalize flip64 y = g1 at *
  have H0 := Lib.hid K0
  have H1 := Lib.hid K1
  clear hx hy K0 K1
  go_enter Try.func74, Try.ntmps74
  go_wp2_with fail
  refine (H0.out).mono ?_
  rintro e w' ⟨rfl, rfl⟩
  go_wp2_with fail
  refine (H1.out).mono ?_
  rintro e w' ⟨rfl, rfl⟩
  go_wp2_with fail
  go_ret
  exact ⟨rfl, rfl⟩
set_option maxRecDepth 100000 in
theorem implAdd64 (x : Nat) (y : Nat) (w : World) (hx : x < 18446744073709551616) (hy : y < 18446744073709551616) : Calls Try.prog 26 #[.int .u64 (x : Int), .int .u64 (y : Int)] w (RetW (.int .u64 ((add64 x y : Nat) : Int)) w) := by
  have H := Lib.hid (fadd64_ret x y w hx hy)
  generalize add64 x y = c at *
  clear hx hy
  go_enter Try.func26, Try.ntmps26
  go_wp2_with (first | (go_at_call 71; refine (H.out).mono ?_; rintro e w' ⟨rfl, rfl⟩) | go_in)
  go_ret
  exact ⟨rfl, rfl⟩
set_option maxRecDepth 100000 in
theorem implSub64 (x : Nat) (y : Nat) (w : World) (hx : x < 18446744073709551616) (hy : y < 18446744073709551616) : Calls Try.prog 30 #[.int .u64 (x : Int), .int .u64 (y : Int)] w (RetW (.int .u64 ((add64 x (flip64 y) : Nat) : Int)) w) := by
  have H := Lib.hid (fsub64_ret x y w hx hy)
  generalize add64 x (flip64 y) = c at *
  clear hx hy
  go_enter Try.func30, Try.ntmps30
  go_wp2_with (first | (go_at_call 74; refine (H.out).mono ?_; rintro e w' ⟨rfl, rfl⟩) | go_in)
  go_ret
  exact ⟨rfl, rfl⟩
set_option maxRecDepth 100000 in
theorem implMul64 (x : Nat) (y : Nat) (w : World) (hx : x < 18446744073709551616) (hy : y < 18446744073709551616) : Calls Try.prog 27 #[.int .u64 (x : Int), .int .u64 (y : Int)] w (RetW (.int .u64 ((mul64 x y : Nat) : Int)) w) := by
  have H := Lib.hid (fmul64_ret x y w hx hy)
  generalize mul64 x y = c at *
  clear hx hy
  go_enter Try.func27, Try.ntmps27
  go_wp2_with (first | (go_at_call 72; refine (H.out).mono ?_; rintro e w' ⟨rfl, rfl⟩) | go_in)
  go_ret
  exact ⟨rfl, rfl⟩
set_option maxRecDepth 100000 in
theorem implWiden (x : Nat) (w : World) (hx : x < 4294967296) : Calls Try.prog 37 #[.int .u32 (x : Int)] w (RetW (.int .u64 ((widen x : Nat) : Int)) w) := by
  have H := Lib.hid (f32to64_ret x w hx)
  generalize widen x = c at *
  clear hx
  go_enter Try.func37, Try.ntmps37
  go_wp2_with (first | (go_at_call 82; refine (H.out).mono ?_; rintro e w' ⟨rfl, rfl⟩) | go_in)
  go_ret
  exact ⟨rfl, rfl⟩
set_option maxRecDepth 100000 in
theorem implNarrow (x : Nat) (w : World) (hx : x < 18446744073709551616) : Calls Try.prog 35 #[.int .u64 (x : Int)] w (RetW (.int .u32 ((narrow x : Nat) : Int)) w) := by
  have H := Lib.hid (f64to32_ret x w hx)
  generalize narrow x = c at *
  clear hx
  go_enter Try.func35, Try.ntmps35
  go_wp2_with (first | (go_at_call 81; refine (H.out).mono ?_; rintro e w' ⟨rfl, rfl⟩) | go_in)
  go_ret
  exact ⟨rfl, rfl⟩

/-- x == y, x > y, x >= y -/
def eqB (x y : Nat) : Bool := !(cmpN x y) && decide (cmpR x y = 0)
def gtB (x y : Nat) : Bool := !(cmpN x y) && decide (1 ≤ cmpR x y)
def geB (x y : Nat) : Bool := !(cmpN x y) && decide (0 ≤ cmpR x y)

set_option maxRecDepth 100000 in
theorem feq64_ret (x y : Nat) (w : World) (hx : x < 18446744073709551616) (hy : y < 18446744073709551616) : Calls Try.prog 75 #[.int .u64 (x : Int), .int .u64 (y : Int)] w (RetW (.bool (eqB x y)) w) := by
  have H := Lib.hid (fcmp64_ret x y w hx hy)
  unfold eqB
  generalize cmpN x y = n at *
  generalize cmpR x y = c at *
  clear hx hy
  cases n
  · by_cases hc : c = 0
    · have hd : decide (c = 0) = true := decide_eq_true hc
      rw [hd]
      go_enter Try.func75, Try.ntmps75
      go_wp2_with fail
      refine (H.out).mono ?_
      rintro e w' ⟨rfl, rfl⟩
      go_wp2_with fail
      go_ret
      exact ⟨rfl, rfl⟩
    · have hd : decide (c = 0) = false := decide_eq_false hc
      rw [hd]
      go_enter Try.func75, Try.ntmps75
      go_wp2_with fail
      refine (H.out).mono ?_
      rintro e w' ⟨rfl, rfl⟩
      go_wp2_with fail
      go_ret
      exact ⟨rfl, rfl⟩
  · by_cases hc : c = 0
    · go_enter Try.func75, Try.ntmps75
      go_wp2_with fail
      refine (H.out).mono ?_
      rintro e w' ⟨rfl, rfl⟩
      go_wp2_with fail
      go_ret
      exact ⟨rfl, rfl⟩
    · go_enter Try.func75, Try.ntmps75
      go_wp2_with fail
      refine (H.out).mono ?_
      rintro e w' ⟨rfl, rfl⟩
      go_wp2_with fail
      go_ret
      exact ⟨rfl, rfl⟩
set_option maxRecDepth 100000 in
theorem implEq64 (x : Nat) (y : Nat) (w : World) (hx : x < 18446744073709551616) (hy : y < 18446744073709551616) : Calls Try.prog 31 #[.int .u64 (x : Int), .int .u64 (y : Int)] w (RetW (.bool (eqB x y)) w) := by
  have H := Lib.hid (feq64_ret x y w hx hy)
  generalize eqB x y = c at *
  clear hx hy
  go_enter Try.func31, Try.ntmps31
  go_wp2_with (first | (go_at_call 75; refine (H.out).mono ?_; rintro e w' ⟨rfl, rfl⟩) | go_in)
  go_ret
  exact ⟨rfl, rfl⟩
set_option maxRecDepth 100000 in
theorem feq32_ret (x y : Nat) (w : World) (hx : x < 4294967296) (hy : y < 4294967296) : Calls Try.prog 68 #[.int .u32 (x : Int), .int .u32 (y : Int)] w (RetW (.bool (eqB (widen x) (widen y))) w) := by
  have H1 := Lib.hid (f32to64_ret x w hx)
  have H2 := Lib.hid (f32to64_ret y w hy)
  have H := Lib.hid (fcmp64_ret (widen x) (widen y) w (widen_lt x) (widen_lt y))
  unfold eqB
  generalize cmpN (widen x) (widen y) = n at *
  generalize cmpR (widen x) (widen y) = c at *
  generalize widen x = wx at *
  generalize widen y = wy at *
  clear hx hy
  cases n
  all_goals by_cases hc : c = 0
  all_goals
    first
      | (have hd : decide (c = 0) = true := decide_eq_true hc; rw [hd])
      | (have hd : decide (c = 0) = false := decide_eq_false hc; rw [hd])
    go_enter Try.func68, Try.ntmps68
    go_wp2_with fail
    refine (H1.out).mono ?_
    rintro e w' ⟨rfl, rfl⟩
    go_wp2_with fail
    refine (H2.out).mono ?_
    rintro e w' ⟨rfl, rfl⟩
    go_wp2_with fail
    refine (H.out).mono ?_
    rintro e w' ⟨rfl, rfl⟩
    go_wp2_with fail
    go_ret
    exact ⟨rfl, rfl⟩
set_option maxRecDepth 100000 in
theorem fgt64_ret (x y : Nat) (w : World) (hx : x < 18446744073709551616) (hy : y < 18446744073709551616) : Calls Try.prog 73 #[.int .u64 (x : Int), .int .u64 (y : Int)] w (RetW (.bool (gtB x y)) w) := by
  have H := Lib.hid (fcmp64_ret x y w hx hy)
  unfold gtB
  generalize cmpN x y = n at *
  generalize cmpR x y = c at *
  clear hx hy
  cases n
  · by_cases hc : 1 ≤ c
    · have hd : decide (1 ≤ c) = true := decide_eq_true hc
      rw [hd]
      go_enter Try.func73, Try.ntmps73
      go_wp2_with fail
      refine (H.out).mono ?_
      rintro e w' ⟨rfl, rfl⟩
      go_wp2_with fail
      go_ret
      exact ⟨rfl, rfl⟩
    · have hd : decide (1 ≤ c) = false := decide_eq_false hc
      rw [hd]
      go_enter Try.func73, Try.ntmps73
      go_wp2_with fail
      refine (H.out).mono ?_
      rintro e w' ⟨rfl, rfl⟩
      go_wp2_with fail
      go_ret
      exact ⟨rfl, rfl⟩
  · by_cases hc : 1 ≤ c
    · go_enter Try.func73, Try.ntmps73
      go_wp2_with fail
      refine (H.out).mono ?_
      rintro e w' ⟨rfl, rfl⟩
      go_wp2_with fail
      go_ret
      exact ⟨rfl, rfl⟩
    · go_enter Try.func73, Try.ntmps73
      go_wp2_with fail
      refine (H.out).mono ?_
      rintro e w' ⟨rfl, rfl⟩
      go_wp2_with fail
      go_ret
      exact ⟨rfl, rfl⟩
set_option maxRecDepth 100000 in
theorem implGt64 (x : Nat) (y : Nat) (w : World) (hx : x < 18446744073709551616) (hy : y < 18446744073709551616) : Calls Try.prog 29 #[.int .u64 (x : Int), .int .u64 (y : Int)] w (RetW (.bool (gtB x y)) w) := by
  have H := Lib.hid (fgt64_ret x y w hx hy)
  generalize gtB x y = c at *
  clear hx hy
  go_enter Try.func29, Try.ntmps29
  go_wp2_with (first | (go_at_call 73; refine (H.out).mono ?_; rintro e w' ⟨rfl, rfl⟩) | go_in)
  go_ret
  exact ⟨rfl, rfl⟩
set_option maxRecDepth 100000 in
theorem fgt32_ret (x y : Nat) (w : World) (hx : x < 4294967296) (hy : y < 4294967296) : Calls Try.prog 69 #[.int .u32 (x : Int), .int .u32 (y : Int)] w (RetW (.bool (gtB (widen x) (widen y))) w) := by
  have H1 := Lib.hid (f32to64_ret x w hx)
  have H2 := Lib.hid (f32to64_ret y w hy)
  have H := Lib.hid (fcmp64_ret (widen x) (widen y) w (widen_lt x) (widen_lt y))
  unfold gtB
  generalize cmpN (widen x) (widen y) = n at *
  generalize cmpR (widen x) (widen y) = c at *
  generalize widen x = wx at *
  generalize widen y = wy at *
  clear hx hy
  cases n
  all_goals by_cases hc : 1 ≤ c
  all_goals
    first
      | (have hd : decide (1 ≤ c) = true := decide_eq_true hc; rw [hd])
      | (have hd : decide (1 ≤ c) = false := decide_eq_false hc; rw [hd])
    go_enter Try.func69, Try.ntmps69
    go_wp2_with fail
    refine (H1.out).mono ?_
    rintro e w' ⟨rfl, rfl⟩
    go_wp2_with fail
    refine (H2.out).mono ?_
    rintro e w' ⟨rfl, rfl⟩
    go_wp2_with fail
    refine (H.out).mono ?_
    rintro e w' ⟨rfl, rfl⟩
    go_wp2_with fail
    go_ret
    exact ⟨rfl, rfl⟩
set_option maxRecDepth 100000 in
theorem fge64_ret (x y : Nat) (w : World) (hx : x < 18446744073709551616) (hy : y < 18446744073709551616) : Calls Try.prog 83 #[.int .u64 (x : Int), .int .u64 (y : Int)] w (RetW (.bool (geB x y)) w) := by
  have H := Lib.hid (fcmp64_ret x y w hx hy)
  unfold geB
  generalize cmpN x y = n at *
  generalize cmpR x y = c at *
  clear hx hy
  cases n
  · by_cases hc : 0 ≤ c
    · have hd : decide (0 ≤ c) = true := decide_eq_true hc
      rw [hd]
      go_enter Try.func83, Try.ntmps83
      go_wp2_with fail
      refine (H.out).mono ?_
      rintro e w' ⟨rfl, rfl⟩
      go_wp2_with fail
      go_ret
      exact ⟨rfl, rfl⟩
    · have hd : decide (0 ≤ c) = false := decide_eq_false hc
      rw [hd]
      go_enter Try.func83, Try.ntmps83
      go_wp2_with fail
      refine (H.out).mono ?_
      rintro e w' ⟨rfl, rfl⟩
      go_wp2_with fail
      go_ret
      exact ⟨rfl, rfl⟩
  · by_cases hc : 0 ≤ c
    · go_enter Try.func83, Try.ntmps83
      go_wp2_with fail
      refine (H.out).mono ?_
      rintro e w' ⟨rfl, rfl⟩
      go_wp2_with fail
      go_ret
      exact ⟨rfl, rfl⟩
    · go_enter Try.func83, Try.ntmps83
      go_wp2_with fail
      refine (H.out).mono ?_
      rintro e w' ⟨rfl, rfl⟩
      go_wp2_with fail
      go_ret
      exact ⟨rfl, rfl⟩
set_option maxRecDepth 100000 in
theorem implGe64 (x : Nat) (y : Nat) (w : World) (hx : x < 18446744073709551616) (hy : y < 18446744073709551616) : Calls Try.prog 38 #[.int .u64 (x : Int), .int .u64 (y : Int)] w (RetW (.bool (geB x y)) w) := by
  have H := Lib.hid (fge64_ret x y w hx hy)
  generalize geB x y = c at *
  clear hx hy
  go_enter Try.func38, Try.ntmps38
  go_wp2_with (first | (go_at_call 83; refine (H.out).mono ?_; rintro e w' ⟨rfl, rfl⟩) | go_in)
  go_ret
  exact ⟨rfl, rfl⟩
set_option maxRecDepth 100000 in
theorem fge32_ret (x y : Nat) (w : World) (hx : x < 4294967296) (hy : y < 4294967296) : Calls Try.prog 70 #[.int .u32 (x : Int), .int .u32 (y : Int)] w (RetW (.bool (geB (widen x) (widen y))) w) := by
  have H1 := Lib.hid (f32to64_ret x w hx)
  have H2 := Lib.hid (f32to64_ret y w hy)
  have H := Lib.hid (fcmp64_ret (widen x) (widen y) w (widen_lt x) (widen_lt y))
  unfold geB
  generalize cmpN (widen x) (widen y) = n at *
  generalize cmpR (widen x) (widen y) = c at *
  generalize widen x = wx at *
  generalize widen y = wy at *
  clear hx hy
  cases n
  all_goals by_cases hc : 0 ≤ c
  all_goals
    first
      | (have hd : decide (0 ≤ c) = true := decide_eq_true hc; rw [hd])
      | (have hd : decide (0 ≤ c) = false := decide_eq_false hc; rw [hd])
    go_enter Try.func70, Try.ntmps70
    go_wp2_with fail
    refine (H1.out).mono ?_
    rintro e w' ⟨rfl, rfl⟩
    go_wp2_with fail
    refine (H2.out).mono ?_
    rintro e w' ⟨rfl, rfl⟩
    go_wp2_with fail
    refine (H.out).mono ?_
    rintro e w' ⟨rfl, rfl⟩
    go_wp2_with fail
    go_ret
    exact ⟨rfl, rfl⟩
set_option maxRecDepth 100000 in
theorem fadd32_raw (x : Nat) (y : Nat) (w : World) (hx : x < 4294967296) (hy : y < 4294967296) : Calls Try.prog 65 #[.int .u32 (x : Int), .int .u32 (y : Int)] w (RetW (.int .u32 ((narrow (add64 (widen x) (widen y)) : Nat) : Int)) w) := by
  have K0 := f32to64_ret x w hx
  have K1 := f32to64_ret y w hy
  have K2 := fadd64_ret (widen x) (widen y) w (widen_lt x) (widen_lt y)
  have K3 := f64to32_ret (add64 (widen x) (widen y)) w (add_lt64 (widen_lt x) (widen_lt y))
  generalize narrow (add64 (widen x) (widen y)) = g0 at *
  generalize add64 (widen x) (widen y) = g1 at *
  generalize widen x = g2 at *
  generalize widen y = g3 at *
  have H0 := Lib.hid K0
  have H1 := Lib.hid K1
  have H2 := Lib.hid K2
  have H3 := Lib.hid K3
  clear hx hy K0 K1 K2 K3
  go_enter Try.func65, Try.ntmps65
  go_wp2_with fail
  refine (H0.out).mono ?_
  rintro e w' ⟨rfl, rfl⟩
  go_wp2_with fail
  refine (H1.out).mono ?_
  rintro e w' ⟨rfl, rfl⟩
  go_wp2_with fail
  refine (H2.out).mono ?_
  rintro e w' ⟨rfl, rfl⟩
  go_wp2_with fail
  refine (H3.out).mono ?_
  rintro e w' ⟨rfl, rfl⟩
  go_wp2_with fail
  go_ret
  exact ⟨rfl, rfl⟩
set_option maxRecDepth 100000 in
theorem implAdd32R (x : Nat) (y : Nat) (w : World) (hx : x < 4294967296) (hy : y < 4294967296) : Calls Try.prog 17 #[.int .u32 (x : Int), .int .u32 (y : Int)] w (RetW (.int .u32 ((narrow (add64 (widen x) (widen y)) : Nat) : Int)) w) := by
  have H := Lib.hid (fadd32_raw x y w hx hy)
  generalize narrow (add64 (widen x) (widen y)) = c at *
  clear hx hy
  go_enter Try.func17, Try.ntmps17
  go_wp2_with (first | (go_at_call 65; refine (H.out).mono ?_; rintro e w' ⟨rfl, rfl⟩) | go_in)
  go_ret
  exact ⟨rfl, rfl⟩
set_option maxRecDepth 100000 in
theorem fmul32_raw (x : Nat) (y : Nat) (w : World) (hx : x < 4294967296) (hy : y < 4294967296) : Calls Try.prog 66 #[.int .u32 (x : Int), .int .u32 (y : Int)] w (RetW (.int .u32 ((narrow (mul64 (widen x) (widen y)) : Nat) : Int)) w) := by
  have K0 := f32to64_ret x w hx
  have K1 := f32to64_ret y w hy
  have K2 := fmul64_ret (widen x) (widen y) w (widen_lt x) (widen_lt y)
  have K3 := f64to32_ret (mul64 (widen x) (widen y)) w (mul_lt64 _ _)
  generalize narrow (mul64 (widen x) (widen y)) = g0 at *
  generalize mul64 (widen x) (widen y) = g1 at *
  generalize widen x = g2 at *
  generalize widen y = g3 at *
  have H0 := Lib.hid K0
  have H1 := Lib.hid K1
  have H2 := Lib.hid K2
  have H3 := Lib.hid K3
  clear hx hy K0 K1 K2 K3
  go_enter Try.func66, Try.ntmps66
  go_wp2_with fail
  refine (H0.out).mono ?_
  rintro e w' ⟨rfl, rfl⟩
  go_wp2_with fail
  refine (H1.out).mono ?_
  rintro e w' ⟨rfl, rfl⟩
  go_wp2_with fail
  refine (H2.out).mono ?_
  rintro e w' ⟨rfl, rfl⟩
  go_wp2_with fail
  refine (H3.out).mono ?_
  rintro e w' ⟨rfl, rfl⟩
  go_wp2_with fail
  go_ret
  exact ⟨rfl, rfl⟩
set_option maxRecDepth 100000 in
theorem implMul32R (x : Nat) (y : Nat) (w : World) (hx : x < 4294967296) (hy : y < 4294967296) : Calls Try.prog 18 #[.int .u32 (x : Int), .int .u32 (y : Int)] w (RetW (.int .u32 ((narrow (mul64 (widen x) (widen y)) : Nat) : Int)) w) := by
  have H := Lib.hid (fmul32_raw x y w hx hy)
  generalize narrow (mul64 (widen x) (widen y)) = c at *
  clear hx hy
  go_enter Try.func18, Try.ntmps18
  go_wp2_with (first | (go_at_call 66; refine (H.out).mono ?_; rintro e w' ⟨rfl, rfl⟩) | go_in)
  go_ret
  exact ⟨rfl, rfl⟩
set_option maxRecDepth 100000 in
theorem fdiv32_raw (x : Nat) (y : Nat) (w : World) (hx : x < 4294967296) (hy : y < 4294967296) : Calls Try.prog 67 #[.int .u32 (x : Int), .int .u32 (y : Int)] w (RetW (.int .u32 ((narrow (div64 (widen x) (widen y)) : Nat) : Int)) w) := by
  have K0 := f32to64_ret x w hx
  have K1 := f32to64_ret y w hy
  have K2 := fdiv64_ret (widen x) (widen y) w (widen_lt x) (widen_lt y)
  have K3 := f64to32_ret (div64 (widen x) (widen y)) w (div_lt64 _ _)
  generalize narrow (div64 (widen x) (widen y)) = g0 at *
  generalize div64 (widen x) (widen y) = g1 at *
  generalize widen x = g2 at *
  generalize widen y = g3 at *
  have H0 := Lib.hid K0
  have H1 := Lib.hid K1
  have H2 := Lib.hid K2
  have H3 := Lib.hid K3
  clear hx hy K0 K1 K2 K3
  go_enter Try.func67, Try.ntmps67
  go_wp2_with fail
  refine (H0.out).mono ?_
  rintro e w' ⟨rfl, rfl⟩
  go_wp2_with fail
  refine (H1.out).mono ?_
  rintro e w' ⟨rfl, rfl⟩
  go_wp2_with fail
  refine (H2.out).mono ?_
  rintro e w' ⟨rfl, rfl⟩
  go_wp2_with fail
  refine (H3.out).mono ?_
  rintro e w' ⟨rfl, rfl⟩
  go_wp2_with fail
  go_ret
  exact ⟨rfl, rfl⟩
set_option maxRecDepth 100000 in
theorem implDiv32R (x : Nat) (y : Nat) (w : World) (hx : x < 4294967296) (hy : y < 4294967296) : Calls Try.prog 19 #[.int .u32 (x : Int), .int .u32 (y : Int)] w (RetW (.int .u32 ((narrow (div64 (widen x) (widen y)) : Nat) : Int)) w) := by
  have H := Lib.hid (fdiv32_raw x y w hx hy)
  generalize narrow (div64 (widen x) (widen y)) = c at *
  clear hx hy
  go_enter Try.func19, Try.ntmps19
  go_wp2_with (first | (go_at_call 67; refine (H.out).mono ?_; rintro e w' ⟨rfl, rfl⟩) | go_in)
  go_ret
  exact ⟨rfl, rfl⟩
set_option maxRecDepth 100000 in
theorem implEq32 (x : Nat) (y : Nat) (w : World) (hx : x < 4294967296) (hy : y < 4294967296) : Calls Try.prog 21 #[.int .u32 (x : Int), .int .u32 (y : Int)] w (RetW (.bool (eqB (widen x) (widen y))) w) := by
  have H := Lib.hid (feq32_ret x y w hx hy)
  generalize eqB (widen x) (widen y) = c at *
  clear hx hy
  go_enter Try.func21, Try.ntmps21
  go_wp2_with (first | (go_at_call 68; refine (H.out).mono ?_; rintro e w' ⟨rfl, rfl⟩) | go_in)
  go_ret
  exact ⟨rfl, rfl⟩
set_option maxRecDepth 100000 in
theorem implGt32 (x : Nat) (y : Nat) (w : World) (hx : x < 4294967296) (hy : y < 4294967296) : Calls Try.prog 22 #[.int .u32 (x : Int), .int .u32 (y : Int)] w (RetW (.bool (gtB (widen x) (widen y))) w) := by
  have H := Lib.hid (fgt32_ret x y w hx hy)
  generalize gtB (widen x) (widen y) = c at *
  clear hx hy
  go_enter Try.func22, Try.ntmps22
  go_wp2_with (first | (go_at_call 69; refine (H.out).mono ?_; rintro e w' ⟨rfl, rfl⟩) | go_in)
  go_ret
  exact ⟨rfl, rfl⟩
set_option maxRecDepth 100000 in
theorem implGe32 (x : Nat) (y : Nat) (w : World) (hx : x < 4294967296) (hy : y < 4294967296) : Calls Try.prog 23 #[.int .u32 (x : Int), .int .u32 (y : Int)] w (RetW (.bool (geB (widen x) (widen y))) w) := by
  have H := Lib.hid (fge32_ret x y w hx hy)
  generalize geB (widen x) (widen y) = c at *
  clear hx hy
  go_enter Try.func23, Try.ntmps23
  go_wp2_with (first | (go_at_call 70; refine (H.out).mono ?_; rintro e w' ⟨rfl, rfl⟩) | go_in)
  go_ret
  exact ⟨rfl, rfl⟩
end Go.Proofs.Ytdadcbjhjmdheaa.SF
