/-
  The small functions of softfloat and of the thin package.
-/
import Derived.Test.YtpjanmahbimhkaaMulWalk
import Derived.Test.YtpjanmahbimhkaaFDiv
import Derived.Test.YtpjanmahbimhkaaNarW
import Derived.Test.YtpjanmahbimhkaaAlg
namespace Go.Proofs.Ytpjanmahbimhkaa.SF
open Go.ChangeShapes Go.WideShapes Go.ChangeAt Go.RowKit
set_option linter.unusedVariables false
theorem widen_lt (x : Nat) : widen x < 18446744073709551616 := by
  unfold widen
  split
  · omega
  · split
    · exact sgn_lt64 _ (by omega)
    · exact rd_lt64 _ _ _
theorem narrow_lt (x : Nat) : narrow x < 4294967296 := by
  unfold narrow
  split
  · omega
  · split
    · exact sgn_lt32 _ (by omega)
    · exact rd_lt32 _ _ _

set_option maxRecDepth 100000 in
theorem fneg64_ret (x : Nat) (w : World) (hx : x < 18446744073709551616) : Calls Try.prog 91 #[.int .u64 (x : Int)] w (RetW (.int .u64 ((flip64 x : Nat) : Int)) w) := by
  have f := xor_flip164 hx
  generalize flip64 x = g0 at *
  clear hx 
  go_enter Try.func91, Try.ntmps91
  go_wp2_with fail
  go_ret
  exact ⟨rfl, rfl⟩
set_option maxRecDepth 100000 in
theorem fsub64_ret (x : Nat) (y : Nat) (w : World) (hx : x < 18446744073709551616) (hy : y < 18446744073709551616) : Calls Try.prog 84 #[.int .u64 (x : Int), .int .u64 (y : Int)] w (RetW (.int .u64 ((add64 x (flip64 y) : Nat) : Int)) w) := by
  have K0 := fneg64_ret y w hy
  have K1 := fadd64_ret x (flip64 y) w hx (flip_lt64 y)
  generalize add64 x (flip64 y) = g0 at *
  generalize flip64 y = g1 at *
  have H0 := Lib.hid K0
  have H1 := Lib.hid K1
  clear hx hy K0 K1
  go_enter Try.func84, Try.ntmps84
  go_wp2_with fail
  refine (H0.out).mono ?_
  rintro e w' ⟨rfl, rfl⟩
  go_wp2_with fail
  refine (H1.out).mono ?_
  rintro e w' ⟨rfl, rfl⟩
  go_wp2_with fail
  go_ret
  exact ⟨rfl, rfl⟩
set_option maxRecDepth 100000 in
theorem implNeg64 (x : Nat) (w : World) (hx : x < 18446744073709551616) : Calls Try.prog 26 #[.int .u64 (x : Int)] w (RetW (.int .u64 ((flip64 x : Nat) : Int)) w) := by
  have H := Lib.hid (fneg64_ret x w hx)
  generalize flip64 x = c at *
  clear hx
  go_enter Try.func26, Try.ntmps26
  go_wp2_with (first | (go_at_call 91; refine (H.out).mono ?_; rintro e w' ⟨rfl, rfl⟩) | go_in)
  go_ret
  exact ⟨rfl, rfl⟩
set_option maxRecDepth 100000 in
theorem implAdd64 (x : Nat) (y : Nat) (w : World) (hx : x < 18446744073709551616) (hy : y < 18446744073709551616) : Calls Try.prog 18 #[.int .u64 (x : Int), .int .u64 (y : Int)] w (RetW (.int .u64 ((add64 x y : Nat) : Int)) w) := by
  have H := Lib.hid (fadd64_ret x y w hx hy)
  generalize add64 x y = c at *
  clear hx hy
  go_enter Try.func18, Try.ntmps18
  go_wp2_with (first | (go_at_call 83; refine (H.out).mono ?_; rintro e w' ⟨rfl, rfl⟩) | go_in)
  go_ret
  exact ⟨rfl, rfl⟩
set_option maxRecDepth 100000 in
theorem implSub64 (x : Nat) (y : Nat) (w : World) (hx : x < 18446744073709551616) (hy : y < 18446744073709551616) : Calls Try.prog 19 #[.int .u64 (x : Int), .int .u64 (y : Int)] w (RetW (.int .u64 ((add64 x (flip64 y) : Nat) : Int)) w) := by
  have H := Lib.hid (fsub64_ret x y w hx hy)
  generalize add64 x (flip64 y) = c at *
  clear hx hy
  go_enter Try.func19, Try.ntmps19
  go_wp2_with (first | (go_at_call 84; refine (H.out).mono ?_; rintro e w' ⟨rfl, rfl⟩) | go_in)
  go_ret
  exact ⟨rfl, rfl⟩
set_option maxRecDepth 100000 in
theorem implMul64 (x : Nat) (y : Nat) (w : World) (hx : x < 18446744073709551616) (hy : y < 18446744073709551616) : Calls Try.prog 21 #[.int .u64 (x : Int), .int .u64 (y : Int)] w (RetW (.int .u64 ((mul64 x y : Nat) : Int)) w) := by
  have H := Lib.hid (fmul64_ret x y w hx hy)
  generalize mul64 x y = c at *
  clear hx hy
  go_enter Try.func21, Try.ntmps21
  go_wp2_with (first | (go_at_call 86; refine (H.out).mono ?_; rintro e w' ⟨rfl, rfl⟩) | go_in)
  go_ret
  exact ⟨rfl, rfl⟩
set_option maxRecDepth 100000 in
theorem implDiv64 (x : Nat) (y : Nat) (w : World) (hx : x < 18446744073709551616) (hy : y < 18446744073709551616) : Calls Try.prog 22 #[.int .u64 (x : Int), .int .u64 (y : Int)] w (RetW (.int .u64 ((div64 x y : Nat) : Int)) w) := by
  have H := Lib.hid (fdiv64_ret x y w hx hy)
  generalize div64 x y = c at *
  clear hx hy
  go_enter Try.func22, Try.ntmps22
  go_wp2_with (first | (go_at_call 87; refine (H.out).mono ?_; rintro e w' ⟨rfl, rfl⟩) | go_in)
  go_ret
  exact ⟨rfl, rfl⟩

/-- x == y, x > y, x >= y -/
def eqB (x y : Nat) : Bool := !(cmpN x y) && decide (cmpR x y = 0)
def gtB (x y : Nat) : Bool := !(cmpN x y) && decide (1 ≤ cmpR x y)
def geB (x y : Nat) : Bool := !(cmpN x y) && decide (0 ≤ cmpR x y)

set_option maxRecDepth 100000 in
theorem feq64_ret (x y : Nat) (w : World) (hx : x < 18446744073709551616) (hy : y < 18446744073709551616) : Calls Try.prog 85 #[.int .u64 (x : Int), .int .u64 (y : Int)] w (RetW (.bool (eqB x y)) w) := by
  have H := Lib.hid (fcmp64_ret x y w hx hy)
  unfold eqB
  generalize cmpN x y = n at *
  generalize cmpR x y = c at *
  clear hx hy
  cases n
  · by_cases hc : c = 0
    · have hd : decide (c = 0) = true := decide_eq_true hc
      rw [hd]
      go_enter Try.func85, Try.ntmps85
      go_wp2_with fail
      refine (H.out).mono ?_
      rintro e w' ⟨rfl, rfl⟩
      go_wp2_with fail
      go_ret
      exact ⟨rfl, rfl⟩
    · have hd : decide (c = 0) = false := decide_eq_false hc
      rw [hd]
      go_enter Try.func85, Try.ntmps85
      go_wp2_with fail
      refine (H.out).mono ?_
      rintro e w' ⟨rfl, rfl⟩
      go_wp2_with fail
      go_ret
      exact ⟨rfl, rfl⟩
  · by_cases hc : c = 0
    · go_enter Try.func85, Try.ntmps85
      go_wp2_with fail
      refine (H.out).mono ?_
      rintro e w' ⟨rfl, rfl⟩
      go_wp2_with fail
      go_ret
      exact ⟨rfl, rfl⟩
    · go_enter Try.func85, Try.ntmps85
      go_wp2_with fail
      refine (H.out).mono ?_
      rintro e w' ⟨rfl, rfl⟩
      go_wp2_with fail
      go_ret
      exact ⟨rfl, rfl⟩
set_option maxRecDepth 100000 in
theorem implEq64 (x : Nat) (y : Nat) (w : World) (hx : x < 18446744073709551616) (hy : y < 18446744073709551616) : Calls Try.prog 20 #[.int .u64 (x : Int), .int .u64 (y : Int)] w (RetW (.bool (eqB x y)) w) := by
  have H := Lib.hid (feq64_ret x y w hx hy)
  generalize eqB x y = c at *
  clear hx hy
  go_enter Try.func20, Try.ntmps20
  go_wp2_with (first | (go_at_call 85; refine (H.out).mono ?_; rintro e w' ⟨rfl, rfl⟩) | go_in)
  go_ret
  exact ⟨rfl, rfl⟩
set_option maxRecDepth 100000 in
theorem feq32_ret (x y : Nat) (w : World) (hx : x < 4294967296) (hy : y < 4294967296) : Calls Try.prog 97 #[.int .u32 (x : Int), .int .u32 (y : Int)] w (RetW (.bool (eqB (widen x) (widen y))) w) := by
  have H1 := Lib.hid (f32to64_ret x w hx)
  have H2 := Lib.hid (f32to64_ret y w hy)
  have H := Lib.hid (fcmp64_ret (widen x) (widen y) w (widen_lt x) (widen_lt y))
  unfold eqB
  generalize cmpN (widen x) (widen y) = n at *
  generalize cmpR (widen x) (widen y) = c at *
  generalize widen x = wx at *
  generalize widen y = wy at *
  clear hx hy
  cases n
  all_goals by_cases hc : c = 0
  all_goals
    first
      | (have hd : decide (c = 0) = true := decide_eq_true hc; rw [hd])
      | (have hd : decide (c = 0) = false := decide_eq_false hc; rw [hd])
    go_enter Try.func97, Try.ntmps97
    go_wp2_with fail
    refine (H1.out).mono ?_
    rintro e w' ⟨rfl, rfl⟩
    go_wp2_with fail
    refine (H2.out).mono ?_
    rintro e w' ⟨rfl, rfl⟩
    go_wp2_with fail
    refine (H.out).mono ?_
    rintro e w' ⟨rfl, rfl⟩
    go_wp2_with fail
    go_ret
    exact ⟨rfl, rfl⟩
set_option maxRecDepth 100000 in
theorem fgt64_ret (x y : Nat) (w : World) (hx : x < 18446744073709551616) (hy : y < 18446744073709551616) : Calls Try.prog 100 #[.int .u64 (x : Int), .int .u64 (y : Int)] w (RetW (.bool (gtB x y)) w) := by
  have H := Lib.hid (fcmp64_ret x y w hx hy)
  unfold gtB
  generalize cmpN x y = n at *
  generalize cmpR x y = c at *
  clear hx hy
  cases n
  · by_cases hc : 1 ≤ c
    · have hd : decide (1 ≤ c) = true := decide_eq_true hc
      rw [hd]
      go_enter Try.func100, Try.ntmps100
      go_wp2_with fail
      refine (H.out).mono ?_
      rintro e w' ⟨rfl, rfl⟩
      go_wp2_with fail
      go_ret
      exact ⟨rfl, rfl⟩
    · have hd : decide (1 ≤ c) = false := decide_eq_false hc
      rw [hd]
      go_enter Try.func100, Try.ntmps100
      go_wp2_with fail
      refine (H.out).mono ?_
      rintro e w' ⟨rfl, rfl⟩
      go_wp2_with fail
      go_ret
      exact ⟨rfl, rfl⟩
  · by_cases hc : 1 ≤ c
    · go_enter Try.func100, Try.ntmps100
      go_wp2_with fail
      refine (H.out).mono ?_
      rintro e w' ⟨rfl, rfl⟩
      go_wp2_with fail
      go_ret
      exact ⟨rfl, rfl⟩
    · go_enter Try.func100, Try.ntmps100
      go_wp2_with fail
      refine (H.out).mono ?_
      rintro e w' ⟨rfl, rfl⟩
      go_wp2_with fail
      go_ret
      exact ⟨rfl, rfl⟩
set_option maxRecDepth 100000 in
theorem implGt64 (x : Nat) (y : Nat) (w : World) (hx : x < 18446744073709551616) (hy : y < 18446744073709551616) : Calls Try.prog 50 #[.int .u64 (x : Int), .int .u64 (y : Int)] w (RetW (.bool (gtB x y)) w) := by
  have H := Lib.hid (fgt64_ret x y w hx hy)
  generalize gtB x y = c at *
  clear hx hy
  go_enter Try.func50, Try.ntmps50
  go_wp2_with (first | (go_at_call 100; refine (H.out).mono ?_; rintro e w' ⟨rfl, rfl⟩) | go_in)
  go_ret
  exact ⟨rfl, rfl⟩
set_option maxRecDepth 100000 in
theorem fgt32_ret (x y : Nat) (w : World) (hx : x < 4294967296) (hy : y < 4294967296) : Calls Try.prog 98 #[.int .u32 (x : Int), .int .u32 (y : Int)] w (RetW (.bool (gtB (widen x) (widen y))) w) := by
  have H1 := Lib.hid (f32to64_ret x w hx)
  have H2 := Lib.hid (f32to64_ret y w hy)
  have H := Lib.hid (fcmp64_ret (widen x) (widen y) w (widen_lt x) (widen_lt y))
  unfold gtB
  generalize cmpN (widen x) (widen y) = n at *
  generalize cmpR (widen x) (widen y) = c at *
  generalize widen x = wx at *
  generalize widen y = wy at *
  clear hx hy
  cases n
  all_goals by_cases hc : 1 ≤ c
  all_goals
    first
      | (have hd : decide (1 ≤ c) = true := decide_eq_true hc; rw [hd])
      | (have hd : decide (1 ≤ c) = false := decide_eq_false hc; rw [hd])
    go_enter Try.func98, Try.ntmps98
    go_wp2_with fail
    refine (H1.out).mono ?_
    rintro e w' ⟨rfl, rfl⟩
    go_wp2_with fail
    refine (H2.out).mono ?_
    rintro e w' ⟨rfl, rfl⟩
    go_wp2_with fail
    refine (H.out).mono ?_
    rintro e w' ⟨rfl, rfl⟩
    go_wp2_with fail
    go_ret
    exact ⟨rfl, rfl⟩
set_option maxRecDepth 100000 in
theorem fge64_ret (x y : Nat) (w : World) (hx : x < 18446744073709551616) (hy : y < 18446744073709551616) : Calls Try.prog 101 #[.int .u64 (x : Int), .int .u64 (y : Int)] w (RetW (.bool (geB x y)) w) := by
  have H := Lib.hid (fcmp64_ret x y w hx hy)
  unfold geB
  generalize cmpN x y = n at *
  generalize cmpR x y = c at *
  clear hx hy
  cases n
  · by_cases hc : 0 ≤ c
    · have hd : decide (0 ≤ c) = true := decide_eq_true hc
      rw [hd]
      go_enter Try.func101, Try.ntmps101
      go_wp2_with fail
      refine (H.out).mono ?_
      rintro e w' ⟨rfl, rfl⟩
      go_wp2_with fail
      go_ret
      exact ⟨rfl, rfl⟩
    · have hd : decide (0 ≤ c) = false := decide_eq_false hc
      rw [hd]
      go_enter Try.func101, Try.ntmps101
      go_wp2_with fail
      refine (H.out).mono ?_
      rintro e w' ⟨rfl, rfl⟩
      go_wp2_with fail
      go_ret
      exact ⟨rfl, rfl⟩
  · by_cases hc : 0 ≤ c
    · go_enter Try.func101, Try.ntmps101
      go_wp2_with fail
      refine (H.out).mono ?_
      rintro e w' ⟨rfl, rfl⟩
      go_wp2_with fail
      go_ret
      exact ⟨rfl, rfl⟩
    · go_enter Try.func101, Try.ntmps101
      go_wp2_with fail
      refine (H.out).mono ?_
      rintro e w' ⟨rfl, rfl⟩
      go_wp2_with fail
      go_ret
      exact ⟨rfl, rfl⟩
set_option maxRecDepth 100000 in
theorem implGe64 (x : Nat) (y : Nat) (w : World) (hx : x < 18446744073709551616) (hy : y < 18446744073709551616) : Calls Try.prog 51 #[.int .u64 (x : Int), .int .u64 (y : Int)] w (RetW (.bool (geB x y)) w) := by
  have H := Lib.hid (fge64_ret x y w hx hy)
  generalize geB x y = c at *
  clear hx hy
  go_enter Try.func51, Try.ntmps51
  go_wp2_with (first | (go_at_call 101; refine (H.out).mono ?_; rintro e w' ⟨rfl, rfl⟩) | go_in)
  go_ret
  exact ⟨rfl, rfl⟩
set_option maxRecDepth 100000 in
theorem fge32_ret (x y : Nat) (w : World) (hx : x < 4294967296) (hy : y < 4294967296) : Calls Try.prog 99 #[.int .u32 (x : Int), .int .u32 (y : Int)] w (RetW (.bool (geB (widen x) (widen y))) w) := by
  have H1 := Lib.hid (f32to64_ret x w hx)
  have H2 := Lib.hid (f32to64_ret y w hy)
  have H := Lib.hid (fcmp64_ret (widen x) (widen y) w (widen_lt x) (widen_lt y))
  unfold geB
  generalize cmpN (widen x) (widen y) = n at *
  generalize cmpR (widen x) (widen y) = c at *
  generalize widen x = wx at *
  generalize widen y = wy at *
  clear hx hy
  cases n
  all_goals by_cases hc : 0 ≤ c
  all_goals
    first
      | (have hd : decide (0 ≤ c) = true := decide_eq_true hc; rw [hd])
      | (have hd : decide (0 ≤ c) = false := decide_eq_false hc; rw [hd])
    go_enter Try.func99, Try.ntmps99
    go_wp2_with fail
    refine (H1.out).mono ?_
    rintro e w' ⟨rfl, rfl⟩
    go_wp2_with fail
    refine (H2.out).mono ?_
    rintro e w' ⟨rfl, rfl⟩
    go_wp2_with fail
    refine (H.out).mono ?_
    rintro e w' ⟨rfl, rfl⟩
    go_wp2_with fail
    go_ret
    exact ⟨rfl, rfl⟩
set_option maxRecDepth 100000 in
theorem fadd32_raw (x : Nat) (y : Nat) (w : World) (hx : x < 4294967296) (hy : y < 4294967296) : Calls Try.prog 94 #[.int .u32 (x : Int), .int .u32 (y : Int)] w (RetW (.int .u32 ((narrow (add64 (widen x) (widen y)) : Nat) : Int)) w) := by
  have K0 := f32to64_ret x w hx
  have K1 := f32to64_ret y w hy
  have K2 := fadd64_ret (widen x) (widen y) w (widen_lt x) (widen_lt y)
  have K3 := f64to32_ret (add64 (widen x) (widen y)) w (add_lt64 (widen_lt x) (widen_lt y))
  generalize narrow (add64 (widen x) (widen y)) = g0 at *
  generalize add64 (widen x) (widen y) = g1 at *
  generalize widen x = g2 at *
  generalize widen y = g3 at *
  have H0 := Lib.hid K0
  have H1 := Lib.hid K1
  have H2 := Lib.hid K2
  have H3 := Lib.hid K3
  clear hx hy K0 K1 K2 K3
  go_enter Try.func94, Try.ntmps94
  go_wp2_with fail
  refine (H0.out).mono ?_
  rintro e w' ⟨rfl, rfl⟩
  go_wp2_with fail
  refine (H1.out).mono ?_
  rintro e w' ⟨rfl, rfl⟩
  go_wp2_with fail
  refine (H2.out).mono ?_
  rintro e w' ⟨rfl, rfl⟩
  go_wp2_with fail
  refine (H3.out).mono ?_
  rintro e w' ⟨rfl, rfl⟩
  go_wp2_with fail
  go_ret
  exact ⟨rfl, rfl⟩
set_option maxRecDepth 100000 in
theorem implAdd32R (x : Nat) (y : Nat) (w : World) (hx : x < 4294967296) (hy : y < 4294967296) : Calls Try.prog 41 #[.int .u32 (x : Int), .int .u32 (y : Int)] w (RetW (.int .u32 ((narrow (add64 (widen x) (widen y)) : Nat) : Int)) w) := by
  have H := Lib.hid (fadd32_raw x y w hx hy)
  generalize narrow (add64 (widen x) (widen y)) = c at *
  clear hx hy
  go_enter Try.func41, Try.ntmps41
  go_wp2_with (first | (go_at_call 94; refine (H.out).mono ?_; rintro e w' ⟨rfl, rfl⟩) | go_in)
  go_ret
  exact ⟨rfl, rfl⟩
set_option maxRecDepth 100000 in
theorem fmul32_raw (x : Nat) (y : Nat) (w : World) (hx : x < 4294967296) (hy : y < 4294967296) : Calls Try.prog 95 #[.int .u32 (x : Int), .int .u32 (y : Int)] w (RetW (.int .u32 ((narrow (mul64 (widen x) (widen y)) : Nat) : Int)) w) := by
  have K0 := f32to64_ret x w hx
  have K1 := f32to64_ret y w hy
  have K2 := fmul64_ret (widen x) (widen y) w (widen_lt x) (widen_lt y)
  have K3 := f64to32_ret (mul64 (widen x) (widen y)) w (mul_lt64 _ _)
  generalize narrow (mul64 (widen x) (widen y)) = g0 at *
  generalize mul64 (widen x) (widen y) = g1 at *
  generalize widen x = g2 at *
  generalize widen y = g3 at *
  have H0 := Lib.hid K0
  have H1 := Lib.hid K1
  have H2 := Lib.hid K2
  have H3 := Lib.hid K3
  clear hx hy K0 K1 K2 K3
  go_enter Try.func95, Try.ntmps95
  go_wp2_with fail
  refine (H0.out).mono ?_
  rintro e w' ⟨rfl, rfl⟩
  go_wp2_with fail
  refine (H1.out).mono ?_
  rintro e w' ⟨rfl, rfl⟩
  go_wp2_with fail
  refine (H2.out).mono ?_
  rintro e w' ⟨rfl, rfl⟩
  go_wp2_with fail
  refine (H3.out).mono ?_
  rintro e w' ⟨rfl, rfl⟩
  go_wp2_with fail
  go_ret
  exact ⟨rfl, rfl⟩
set_option maxRecDepth 100000 in
theorem implMul32R (x : Nat) (y : Nat) (w : World) (hx : x < 4294967296) (hy : y < 4294967296) : Calls Try.prog 43 #[.int .u32 (x : Int), .int .u32 (y : Int)] w (RetW (.int .u32 ((narrow (mul64 (widen x) (widen y)) : Nat) : Int)) w) := by
  have H := Lib.hid (fmul32_raw x y w hx hy)
  generalize narrow (mul64 (widen x) (widen y)) = c at *
  clear hx hy
  go_enter Try.func43, Try.ntmps43
  go_wp2_with (first | (go_at_call 95; refine (H.out).mono ?_; rintro e w' ⟨rfl, rfl⟩) | go_in)
  go_ret
  exact ⟨rfl, rfl⟩
set_option maxRecDepth 100000 in
theorem fdiv32_raw (x : Nat) (y : Nat) (w : World) (hx : x < 4294967296) (hy : y < 4294967296) : Calls Try.prog 96 #[.int .u32 (x : Int), .int .u32 (y : Int)] w (RetW (.int .u32 ((narrow (div64 (widen x) (widen y)) : Nat) : Int)) w) := by
  have K0 := f32to64_ret x w hx
  have K1 := f32to64_ret y w hy
  have K2 := fdiv64_ret (widen x) (widen y) w (widen_lt x) (widen_lt y)
  have K3 := f64to32_ret (div64 (widen x) (widen y)) w (div_lt64 _ _)
  generalize narrow (div64 (widen x) (widen y)) = g0 at *
  generalize div64 (widen x) (widen y) = g1 at *
  generalize widen x = g2 at *
  generalize widen y = g3 at *
  have H0 := Lib.hid K0
  have H1 := Lib.hid K1
  have H2 := Lib.hid K2
  have H3 := Lib.hid K3
  clear hx hy K0 K1 K2 K3
  go_enter Try.func96, Try.ntmps96
  go_wp2_with fail
  refine (H0.out).mono ?_
  rintro e w' ⟨rfl, rfl⟩
  go_wp2_with fail
  refine (H1.out).mono ?_
  rintro e w' ⟨rfl, rfl⟩
  go_wp2_with fail
  refine (H2.out).mono ?_
  rintro e w' ⟨rfl, rfl⟩
  go_wp2_with fail
  refine (H3.out).mono ?_
  rintro e w' ⟨rfl, rfl⟩
  go_wp2_with fail
  go_ret
  exact ⟨rfl, rfl⟩
set_option maxRecDepth 100000 in
theorem implDiv32R (x : Nat) (y : Nat) (w : World) (hx : x < 4294967296) (hy : y < 4294967296) : Calls Try.prog 44 #[.int .u32 (x : Int), .int .u32 (y : Int)] w (RetW (.int .u32 ((narrow (div64 (widen x) (widen y)) : Nat) : Int)) w) := by
  have H := Lib.hid (fdiv32_raw x y w hx hy)
  generalize narrow (div64 (widen x) (widen y)) = c at *
  clear hx hy
  go_enter Try.func44, Try.ntmps44
  go_wp2_with (first | (go_at_call 96; refine (H.out).mono ?_; rintro e w' ⟨rfl, rfl⟩) | go_in)
  go_ret
  exact ⟨rfl, rfl⟩
set_option maxRecDepth 100000 in
theorem implEq32 (x : Nat) (y : Nat) (w : World) (hx : x < 4294967296) (hy : y < 4294967296) : Calls Try.prog 45 #[.int .u32 (x : Int), .int .u32 (y : Int)] w (RetW (.bool (eqB (widen x) (widen y))) w) := by
  have H := Lib.hid (feq32_ret x y w hx hy)
  generalize eqB (widen x) (widen y) = c at *
  clear hx hy
  go_enter Try.func45, Try.ntmps45
  go_wp2_with (first | (go_at_call 97; refine (H.out).mono ?_; rintro e w' ⟨rfl, rfl⟩) | go_in)
  go_ret
  exact ⟨rfl, rfl⟩
set_option maxRecDepth 100000 in
theorem implGt32 (x : Nat) (y : Nat) (w : World) (hx : x < 4294967296) (hy : y < 4294967296) : Calls Try.prog 46 #[.int .u32 (x : Int), .int .u32 (y : Int)] w (RetW (.bool (gtB (widen x) (widen y))) w) := by
  have H := Lib.hid (fgt32_ret x y w hx hy)
  generalize gtB (widen x) (widen y) = c at *
  clear hx hy
  go_enter Try.func46, Try.ntmps46
  go_wp2_with (first | (go_at_call 98; refine (H.out).mono ?_; rintro e w' ⟨rfl, rfl⟩) | go_in)
  go_ret
  exact ⟨rfl, rfl⟩
set_option maxRecDepth 100000 in
theorem implGe32 (x : Nat) (y : Nat) (w : World) (hx : x < 4294967296) (hy : y < 4294967296) : Calls Try.prog 47 #[.int .u32 (x : Int), .int .u32 (y : Int)] w (RetW (.bool (geB (widen x) (widen y))) w) := by
  have H := Lib.hid (fge32_ret x y w hx hy)
  generalize geB (widen x) (widen y) = c at *
  clear hx hy
  go_enter Try.func47, Try.ntmps47
  go_wp2_with (first | (go_at_call 99; refine (H.out).mono ?_; rintro e w' ⟨rfl, rfl⟩) | go_in)
  go_ret
  exact ⟨rfl, rfl⟩
end Go.Proofs.Ytpjanmahbimhkaa.SF
