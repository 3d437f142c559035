/-
  The small functions of softfloat and of the thin package.
-/
import Derived.Test.YtlagofjbgjhenaaMulWalk
import Derived.Test.YtlagofjbgjhenaaFDiv
import Derived.Test.YtlagofjbgjhenaaNarW
import Derived.Test.YtlagofjbgjhenaaAlg
namespace Go.Proofs.Ytlagofjbgjhenaa.SF
open Go.ChangeShapes Go.WideShapes Go.ChangeAt Go.RowKit
set_option linter.unusedVariables false
theorem widen_lt (x : Nat) : widen x < 18446744073709551616 := by
  unfold widen
  split
  · omega
  · split
    · exact sgn_lt64 _ (by omega)
    · exact rd_lt64 _ _ _
theorem narrow_lt (x : Nat) : narrow x < 4294967296 := by
  unfold narrow
  split
  · omega
  · split
    · exact sgn_lt32 _ (by omega)
    · exact rd_lt32 _ _ _

set_option maxRecDepth 100000 in
theorem fneg64_ret (x : Nat) (w : World) (hx : x < 18446744073709551616) : Calls Try.prog 61 #[.int .u64 (x : Int)] w (RetW (.int .u64 ((flip64 x : Nat) : Int)) w) := by
  have f := xor_flip164 hx
  generalize flip64 x = g0 at *
  clear hx 
  go_enter Try.func61, Try.ntmps61
  go_wp2_with fail
  go_ret
  exact ⟨rfl, rfl⟩
set_option maxRecDepth 100000 in
theorem fsub64_ret (x : Nat) (y : Nat) (w : World) (hx : x < 18446744073709551616) (hy : y < 18446744073709551616) : Calls Try.prog 60 #[.int .u64 (x : Int), .int .u64 (y : Int)] w (RetW (.int .u64 ((add64 x (flip64 y) : Nat) : Int)) w) := by
  have K0 := fneg64_ret y w hy
  have K1 := fadd64_ret x (flip64 y) w hx (flip_lt64 y)
  generalize add64 x (flip64 y) = g0 at *
  generalize flip64 y = g1 at *
  have H0 := Lib.hid K0
  have H1 := Lib.hid K1
  clear hx hy K0 K1
  go_enter Try.func60, Try.ntmps60
  go_wp2_with fail
  refine (H0.out).mono ?_
  rintro e w' ⟨rfl, rfl⟩
  go_wp2_with fail
  refine (H1.out).mono ?_
  rintro e w' ⟨rfl, rfl⟩
  go_wp2_with fail
  go_ret
  exact ⟨rfl, rfl⟩
set_option maxRecDepth 100000 in
theorem implNeg64 (x : Nat) (w : World) (hx : x < 18446744073709551616) : Calls Try.prog 24 #[.int .u64 (x : Int)] w (RetW (.int .u64 ((flip64 x : Nat) : Int)) w) := by
  have H := Lib.hid (fneg64_ret x w hx)
  generalize flip64 x = c at *
  clear hx
  go_enter Try.func24, Try.ntmps24
  go_wp2_with (first | (go_at_call 61; refine (H.out).mono ?_; rintro e w' ⟨rfl, rfl⟩) | go_in)
  go_ret
  exact ⟨rfl, rfl⟩
set_option maxRecDepth 100000 in
theorem implAdd64 (x : Nat) (y : Nat) (w : World) (hx : x < 18446744073709551616) (hy : y < 18446744073709551616) : Calls Try.prog 19 #[.int .u64 (x : Int), .int .u64 (y : Int)] w (RetW (.int .u64 ((add64 x y : Nat) : Int)) w) := by
  have H := Lib.hid (fadd64_ret x y w hx hy)
  generalize add64 x y = c at *
  clear hx hy
  go_enter Try.func19, Try.ntmps19
  go_wp2_with (first | (go_at_call 57; refine (H.out).mono ?_; rintro e w' ⟨rfl, rfl⟩) | go_in)
  go_ret
  exact ⟨rfl, rfl⟩
set_option maxRecDepth 100000 in
theorem implSub64 (x : Nat) (y : Nat) (w : World) (hx : x < 18446744073709551616) (hy : y < 18446744073709551616) : Calls Try.prog 23 #[.int .u64 (x : Int), .int .u64 (y : Int)] w (RetW (.int .u64 ((add64 x (flip64 y) : Nat) : Int)) w) := by
  have H := Lib.hid (fsub64_ret x y w hx hy)
  generalize add64 x (flip64 y) = c at *
  clear hx hy
  go_enter Try.func23, Try.ntmps23
  go_wp2_with (first | (go_at_call 60; refine (H.out).mono ?_; rintro e w' ⟨rfl, rfl⟩) | go_in)
  go_ret
  exact ⟨rfl, rfl⟩
set_option maxRecDepth 100000 in
theorem implMul64 (x : Nat) (y : Nat) (w : World) (hx : x < 18446744073709551616) (hy : y < 18446744073709551616) : Calls Try.prog 15 #[.int .u64 (x : Int), .int .u64 (y : Int)] w (RetW (.int .u64 ((mul64 x y : Nat) : Int)) w) := by
  have H := Lib.hid (fmul64_ret x y w hx hy)
  generalize mul64 x y = c at *
  clear hx hy
  go_enter Try.func15, Try.ntmps15
  go_wp2_with (first | (go_at_call 55; refine (H.out).mono ?_; rintro e w' ⟨rfl, rfl⟩) | go_in)
  go_ret
  exact ⟨rfl, rfl⟩
set_option maxRecDepth 100000 in
theorem implDiv64 (x : Nat) (y : Nat) (w : World) (hx : x < 18446744073709551616) (hy : y < 18446744073709551616) : Calls Try.prog 16 #[.int .u64 (x : Int), .int .u64 (y : Int)] w (RetW (.int .u64 ((div64 x y : Nat) : Int)) w) := by
  have H := Lib.hid (fdiv64_ret x y w hx hy)
  generalize div64 x y = c at *
  clear hx hy
  go_enter Try.func16, Try.ntmps16
  go_wp2_with (first | (go_at_call 56; refine (H.out).mono ?_; rintro e w' ⟨rfl, rfl⟩) | go_in)
  go_ret
  exact ⟨rfl, rfl⟩
set_option maxRecDepth 100000 in
theorem fadd32_raw (x : Nat) (y : Nat) (w : World) (hx : x < 4294967296) (hy : y < 4294967296) : Calls Try.prog 62 #[.int .u32 (x : Int), .int .u32 (y : Int)] w (RetW (.int .u32 ((narrow (add64 (widen x) (widen y)) : Nat) : Int)) w) := by
  have K0 := f32to64_ret x w hx
  have K1 := f32to64_ret y w hy
  have K2 := fadd64_ret (widen x) (widen y) w (widen_lt x) (widen_lt y)
  have K3 := f64to32_ret (add64 (widen x) (widen y)) w (add_lt64 (widen_lt x) (widen_lt y))
  generalize narrow (add64 (widen x) (widen y)) = g0 at *
  generalize add64 (widen x) (widen y) = g1 at *
  generalize widen x = g2 at *
  generalize widen y = g3 at *
  have H0 := Lib.hid K0
  have H1 := Lib.hid K1
  have H2 := Lib.hid K2
  have H3 := Lib.hid K3
  clear hx hy K0 K1 K2 K3
  go_enter Try.func62, Try.ntmps62
  go_wp2_with fail
  refine (H0.out).mono ?_
  rintro e w' ⟨rfl, rfl⟩
  go_wp2_with fail
  refine (H1.out).mono ?_
  rintro e w' ⟨rfl, rfl⟩
  go_wp2_with fail
  refine (H2.out).mono ?_
  rintro e w' ⟨rfl, rfl⟩
  go_wp2_with fail
  refine (H3.out).mono ?_
  rintro e w' ⟨rfl, rfl⟩
  go_wp2_with fail
  go_ret
  exact ⟨rfl, rfl⟩
set_option maxRecDepth 100000 in
theorem implAdd32R (x : Nat) (y : Nat) (w : World) (hx : x < 4294967296) (hy : y < 4294967296) : Calls Try.prog 25 #[.int .u32 (x : Int), .int .u32 (y : Int)] w (RetW (.int .u32 ((narrow (add64 (widen x) (widen y)) : Nat) : Int)) w) := by
  have H := Lib.hid (fadd32_raw x y w hx hy)
  generalize narrow (add64 (widen x) (widen y)) = c at *
  clear hx hy
  go_enter Try.func25, Try.ntmps25
  go_wp2_with (first | (go_at_call 62; refine (H.out).mono ?_; rintro e w' ⟨rfl, rfl⟩) | go_in)
  go_ret
  exact ⟨rfl, rfl⟩
set_option maxRecDepth 100000 in
theorem fmul32_raw (x : Nat) (y : Nat) (w : World) (hx : x < 4294967296) (hy : y < 4294967296) : Calls Try.prog 63 #[.int .u32 (x : Int), .int .u32 (y : Int)] w (RetW (.int .u32 ((narrow (mul64 (widen x) (widen y)) : Nat) : Int)) w) := by
  have K0 := f32to64_ret x w hx
  have K1 := f32to64_ret y w hy
  have K2 := fmul64_ret (widen x) (widen y) w (widen_lt x) (widen_lt y)
  have K3 := f64to32_ret (mul64 (widen x) (widen y)) w (mul_lt64 _ _)
  generalize narrow (mul64 (widen x) (widen y)) = g0 at *
  generalize mul64 (widen x) (widen y) = g1 at *
  generalize widen x = g2 at *
  generalize widen y = g3 at *
  have H0 := Lib.hid K0
  have H1 := Lib.hid K1
  have H2 := Lib.hid K2
  have H3 := Lib.hid K3
  clear hx hy K0 K1 K2 K3
  go_enter Try.func63, Try.ntmps63
  go_wp2_with fail
  refine (H0.out).mono ?_
  rintro e w' ⟨rfl, rfl⟩
  go_wp2_with fail
  refine (H1.out).mono ?_
  rintro e w' ⟨rfl, rfl⟩
  go_wp2_with fail
  refine (H2.out).mono ?_
  rintro e w' ⟨rfl, rfl⟩
  go_wp2_with fail
  refine (H3.out).mono ?_
  rintro e w' ⟨rfl, rfl⟩
  go_wp2_with fail
  go_ret
  exact ⟨rfl, rfl⟩
set_option maxRecDepth 100000 in
theorem implMul32R (x : Nat) (y : Nat) (w : World) (hx : x < 4294967296) (hy : y < 4294967296) : Calls Try.prog 29 #[.int .u32 (x : Int), .int .u32 (y : Int)] w (RetW (.int .u32 ((narrow (mul64 (widen x) (widen y)) : Nat) : Int)) w) := by
  have H := Lib.hid (fmul32_raw x y w hx hy)
  generalize narrow (mul64 (widen x) (widen y)) = c at *
  clear hx hy
  go_enter Try.func29, Try.ntmps29
  go_wp2_with (first | (go_at_call 63; refine (H.out).mono ?_; rintro e w' ⟨rfl, rfl⟩) | go_in)
  go_ret
  exact ⟨rfl, rfl⟩
set_option maxRecDepth 100000 in
theorem fdiv32_raw (x : Nat) (y : Nat) (w : World) (hx : x < 4294967296) (hy : y < 4294967296) : Calls Try.prog 65 #[.int .u32 (x : Int), .int .u32 (y : Int)] w (RetW (.int .u32 ((narrow (div64 (widen x) (widen y)) : Nat) : Int)) w) := by
  have K0 := f32to64_ret x w hx
  have K1 := f32to64_ret y w hy
  have K2 := fdiv64_ret (widen x) (widen y) w (widen_lt x) (widen_lt y)
  have K3 := f64to32_ret (div64 (widen x) (widen y)) w (div_lt64 _ _)
  generalize narrow (div64 (widen x) (widen y)) = g0 at *
  generalize div64 (widen x) (widen y) = g1 at *
  generalize widen x = g2 at *
  generalize widen y = g3 at *
  have H0 := Lib.hid K0
  have H1 := Lib.hid K1
  have H2 := Lib.hid K2
  have H3 := Lib.hid K3
  clear hx hy K0 K1 K2 K3
  go_enter Try.func65, Try.ntmps65
  go_wp2_with fail
  refine (H0.out).mono ?_
  rintro e w' ⟨rfl, rfl⟩
  go_wp2_with fail
  refine (H1.out).mono ?_
  rintro e w' ⟨rfl, rfl⟩
  go_wp2_with fail
  refine (H2.out).mono ?_
  rintro e w' ⟨rfl, rfl⟩
  go_wp2_with fail
  refine (H3.out).mono ?_
  rintro e w' ⟨rfl, rfl⟩
  go_wp2_with fail
  go_ret
  exact ⟨rfl, rfl⟩
set_option maxRecDepth 100000 in
theorem implDiv32R (x : Nat) (y : Nat) (w : World) (hx : x < 4294967296) (hy : y < 4294967296) : Calls Try.prog 31 #[.int .u32 (x : Int), .int .u32 (y : Int)] w (RetW (.int .u32 ((narrow (div64 (widen x) (widen y)) : Nat) : Int)) w) := by
  have H := Lib.hid (fdiv32_raw x y w hx hy)
  generalize narrow (div64 (widen x) (widen y)) = c at *
  clear hx hy
  go_enter Try.func31, Try.ntmps31
  go_wp2_with (first | (go_at_call 65; refine (H.out).mono ?_; rintro e w' ⟨rfl, rfl⟩) | go_in)
  go_ret
  exact ⟨rfl, rfl⟩
end Go.Proofs.Ytlagofjbgjhenaa.SF
