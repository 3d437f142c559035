/-
  The small functions of softfloat and of the thin package.
-/
import Derived.Test.YthbdijmoohfomaaMulWalk
import Derived.Test.YthbdijmoohfomaaFDiv
import Derived.Test.YthbdijmoohfomaaNarW
import Derived.Test.YthbdijmoohfomaaAlg
namespace Go.Proofs.Ythbdijmoohfomaa.SF
open Go.ChangeShapes Go.WideShapes Go.ChangeAt Go.RowKit
set_option linter.unusedVariables false
theorem widen_lt (x : Nat) : widen x < 18446744073709551616 := by
  unfold widen
  split
  · omega
  · split
    · exact sgn_lt64 _ (by omega)
    · exact rd_lt64 _ _ _
theorem narrow_lt (x : Nat) : narrow x < 4294967296 := by
  unfold narrow
  split
  · omega
  · split
    · exact sgn_lt32 _ (by omega)
    · exact rd_lt32 _ _ _

set_option maxRecDepth 100000 in
theorem fneg64_ret (x : Nat) (w : World) (hx : x < 18446744073709551616) : Calls Try.prog 58 #[.int .u64 (x : Int)] w (RetW (.int .u64 ((flip64 x : Nat) : Int)) w) := by
  have f := xor_flip164 hx
  generalize flip64 x = g0 at *
  clear hx 
  go_enter Try.func58, Try.ntmps58
  go_wp2_with fail
  go_ret
  exact ⟨rfl, rfl⟩
set_option maxRecDepth 100000 in
theorem implNeg64 (x : Nat) (w : World) (hx : x < 18446744073709551616) : Calls Try.prog 15 #[.int .u64 (x : Int)] w (RetW (.int .u64 ((flip64 x : Nat) : Int)) w) := by
  have H := Lib.hid (fneg64_ret x w hx)
  generalize flip64 x = c at *
  clear hx
  go_enter Try.func15, Try.ntmps15
  go_wp2_with (first | (go_at_call 58; refine (H.out).mono ?_; rintro e w' ⟨rfl, rfl⟩) | go_in)
  go_ret
  exact ⟨rfl, rfl⟩

/-- x == y, x > y, x >= y -/
def eqB (x y : Nat) : Bool := !(cmpN x y) && decide (cmpR x y = 0)
def gtB (x y : Nat) : Bool := !(cmpN x y) && decide (1 ≤ cmpR x y)
def geB (x y : Nat) : Bool := !(cmpN x y) && decide (0 ≤ cmpR x y)

set_option maxRecDepth 100000 in
theorem fadd32_raw (x : Nat) (y : Nat) (w : World) (hx : x < 4294967296) (hy : y < 4294967296) : Calls Try.prog 65 #[.int .u32 (x : Int), .int .u32 (y : Int)] w (RetW (.int .u32 ((narrow (add64 (widen x) (widen y)) : Nat) : Int)) w) := by
  have K0 := f32to64_ret x w hx
  have K1 := f32to64_ret y w hy
  have K2 := fadd64_ret (widen x) (widen y) w (widen_lt x) (widen_lt y)
  have K3 := f64to32_ret (add64 (widen x) (widen y)) w (add_lt64 (widen_lt x) (widen_lt y))
  generalize narrow (add64 (widen x) (widen y)) = g0 at *
  generalize add64 (widen x) (widen y) = g1 at *
  generalize widen x = g2 at *
  generalize widen y = g3 at *
  have H0 := Lib.hid K0
  have H1 := Lib.hid K1
  have H2 := Lib.hid K2
  have H3 := Lib.hid K3
  clear hx hy K0 K1 K2 K3
  go_enter Try.func65, Try.ntmps65
  go_wp2_with fail
  refine (H0.out).mono ?_
  rintro e w' ⟨rfl, rfl⟩
  go_wp2_with fail
  refine (H1.out).mono ?_
  rintro e w' ⟨rfl, rfl⟩
  go_wp2_with fail
  refine (H2.out).mono ?_
  rintro e w' ⟨rfl, rfl⟩
  go_wp2_with fail
  refine (H3.out).mono ?_
  rintro e w' ⟨rfl, rfl⟩
  go_wp2_with fail
  go_ret
  exact ⟨rfl, rfl⟩
set_option maxRecDepth 100000 in
theorem implAdd32R (x : Nat) (y : Nat) (w : World) (hx : x < 4294967296) (hy : y < 4294967296) : Calls Try.prog 33 #[.int .u32 (x : Int), .int .u32 (y : Int)] w (RetW (.int .u32 ((narrow (add64 (widen x) (widen y)) : Nat) : Int)) w) := by
  have H := Lib.hid (fadd32_raw x y w hx hy)
  generalize narrow (add64 (widen x) (widen y)) = c at *
  clear hx hy
  go_enter Try.func33, Try.ntmps33
  go_wp2_with (first | (go_at_call 65; refine (H.out).mono ?_; rintro e w' ⟨rfl, rfl⟩) | go_in)
  go_ret
  exact ⟨rfl, rfl⟩
set_option maxRecDepth 100000 in
theorem fmul32_raw (x : Nat) (y : Nat) (w : World) (hx : x < 4294967296) (hy : y < 4294967296) : Calls Try.prog 63 #[.int .u32 (x : Int), .int .u32 (y : Int)] w (RetW (.int .u32 ((narrow (mul64 (widen x) (widen y)) : Nat) : Int)) w) := by
  have K0 := f32to64_ret x w hx
  have K1 := f32to64_ret y w hy
  have K2 := fmul64_ret (widen x) (widen y) w (widen_lt x) (widen_lt y)
  have K3 := f64to32_ret (mul64 (widen x) (widen y)) w (mul_lt64 _ _)
  generalize narrow (mul64 (widen x) (widen y)) = g0 at *
  generalize mul64 (widen x) (widen y) = g1 at *
  generalize widen x = g2 at *
  generalize widen y = g3 at *
  have H0 := Lib.hid K0
  have H1 := Lib.hid K1
  have H2 := Lib.hid K2
  have H3 := Lib.hid K3
  clear hx hy K0 K1 K2 K3
  go_enter Try.func63, Try.ntmps63
  go_wp2_with fail
  refine (H0.out).mono ?_
  rintro e w' ⟨rfl, rfl⟩
  go_wp2_with fail
  refine (H1.out).mono ?_
  rintro e w' ⟨rfl, rfl⟩
  go_wp2_with fail
  refine (H2.out).mono ?_
  rintro e w' ⟨rfl, rfl⟩
  go_wp2_with fail
  refine (H3.out).mono ?_
  rintro e w' ⟨rfl, rfl⟩
  go_wp2_with fail
  go_ret
  exact ⟨rfl, rfl⟩
set_option maxRecDepth 100000 in
theorem implMul32R (x : Nat) (y : Nat) (w : World) (hx : x < 4294967296) (hy : y < 4294967296) : Calls Try.prog 31 #[.int .u32 (x : Int), .int .u32 (y : Int)] w (RetW (.int .u32 ((narrow (mul64 (widen x) (widen y)) : Nat) : Int)) w) := by
  have H := Lib.hid (fmul32_raw x y w hx hy)
  generalize narrow (mul64 (widen x) (widen y)) = c at *
  clear hx hy
  go_enter Try.func31, Try.ntmps31
  go_wp2_with (first | (go_at_call 63; refine (H.out).mono ?_; rintro e w' ⟨rfl, rfl⟩) | go_in)
  go_ret
  exact ⟨rfl, rfl⟩
set_option maxRecDepth 100000 in
theorem fdiv32_raw (x : Nat) (y : Nat) (w : World) (hx : x < 4294967296) (hy : y < 4294967296) : Calls Try.prog 64 #[.int .u32 (x : Int), .int .u32 (y : Int)] w (RetW (.int .u32 ((narrow (div64 (widen x) (widen y)) : Nat) : Int)) w) := by
  have K0 := f32to64_ret x w hx
  have K1 := f32to64_ret y w hy
  have K2 := fdiv64_ret (widen x) (widen y) w (widen_lt x) (widen_lt y)
  have K3 := f64to32_ret (div64 (widen x) (widen y)) w (div_lt64 _ _)
  generalize narrow (div64 (widen x) (widen y)) = g0 at *
  generalize div64 (widen x) (widen y) = g1 at *
  generalize widen x = g2 at *
  generalize widen y = g3 at *
  have H0 := Lib.hid K0
  have H1 := Lib.hid K1
  have H2 := Lib.hid K2
  have H3 := Lib.hid K3
  clear hx hy K0 K1 K2 K3
  go_enter Try.func64, Try.ntmps64
  go_wp2_with fail
  refine (H0.out).mono ?_
  rintro e w' ⟨rfl, rfl⟩
  go_wp2_with fail
  refine (H1.out).mono ?_
  rintro e w' ⟨rfl, rfl⟩
  go_wp2_with fail
  refine (H2.out).mono ?_
  rintro e w' ⟨rfl, rfl⟩
  go_wp2_with fail
  refine (H3.out).mono ?_
  rintro e w' ⟨rfl, rfl⟩
  go_wp2_with fail
  go_ret
  exact ⟨rfl, rfl⟩
set_option maxRecDepth 100000 in
theorem implDiv32R (x : Nat) (y : Nat) (w : World) (hx : x < 4294967296) (hy : y < 4294967296) : Calls Try.prog 32 #[.int .u32 (x : Int), .int .u32 (y : Int)] w (RetW (.int .u32 ((narrow (div64 (widen x) (widen y)) : Nat) : Int)) w) := by
  have H := Lib.hid (fdiv32_raw x y w hx hy)
  generalize narrow (div64 (widen x) (widen y)) = c at *
  clear hx hy
  go_enter Try.func32, Try.ntmps32
  go_wp2_with (first | (go_at_call 64; refine (H.out).mono ?_; rintro e w' ⟨rfl, rfl⟩) | go_in)
  go_ret
  exact ⟨rfl, rfl⟩
end Go.Proofs.Ythbdijmoohfomaa.SF
