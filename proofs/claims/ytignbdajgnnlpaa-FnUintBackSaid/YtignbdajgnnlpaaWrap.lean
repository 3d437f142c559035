/-
  The small functions of softfloat and of the thin package.
-/
import Derived.Test.YtignbdajgnnlpaaMulWalk
import Derived.Test.YtignbdajgnnlpaaFDiv
import Derived.Test.YtignbdajgnnlpaaNarW
import Derived.Test.YtignbdajgnnlpaaAlg
namespace Go.Proofs.Ytignbdajgnnlpaa.SF
open Go.ChangeShapes Go.WideShapes Go.ChangeAt Go.RowKit
set_option linter.unusedVariables false
theorem widen_lt (x : Nat) : widen x < 18446744073709551616 := by
  unfold widen
  split
  · omega
  · split
    · exact sgn_lt64 _ (by omega)
    · exact rd_lt64 _ _ _
theorem narrow_lt (x : Nat) : narrow x < 4294967296 := by
  unfold narrow
  split
  · omega
  · split
    · exact sgn_lt32 _ (by omega)
    · exact rd_lt32 _ _ _


/-- x == y, x > y, x >= y -/
def eqB (x y : Nat) : Bool := !(cmpN x y) && decide (cmpR x y = 0)
def gtB (x y : Nat) : Bool := !(cmpN x y) && decide (1 ≤ cmpR x y)
def geB (x y : Nat) : Bool := !(cmpN x y) && decide (0 ≤ cmpR x y)

set_option maxRecDepth 100000 in
theorem fgt64_ret (x y : Nat) (w : World) (hx : x < 18446744073709551616) (hy : y < 18446744073709551616) : Calls Try.prog 77 #[.int .u64 (x : Int), .int .u64 (y : Int)] w (RetW (.bool (gtB x y)) w) := by
  have H := Lib.hid (fcmp64_ret x y w hx hy)
  unfold gtB
  generalize cmpN x y = n at *
  generalize cmpR x y = c at *
  clear hx hy
  cases n
  · by_cases hc : 1 ≤ c
    · have hd : decide (1 ≤ c) = true := decide_eq_true hc
      rw [hd]
      go_enter Try.func77, Try.ntmps77
      go_wp2_with fail
      refine (H.out).mono ?_
      rintro e w' ⟨rfl, rfl⟩
      go_wp2_with fail
      go_ret
      exact ⟨rfl, rfl⟩
    · have hd : decide (1 ≤ c) = false := decide_eq_false hc
      rw [hd]
      go_enter Try.func77, Try.ntmps77
      go_wp2_with fail
      refine (H.out).mono ?_
      rintro e w' ⟨rfl, rfl⟩
      go_wp2_with fail
      go_ret
      exact ⟨rfl, rfl⟩
  · by_cases hc : 1 ≤ c
    · go_enter Try.func77, Try.ntmps77
      go_wp2_with fail
      refine (H.out).mono ?_
      rintro e w' ⟨rfl, rfl⟩
      go_wp2_with fail
      go_ret
      exact ⟨rfl, rfl⟩
    · go_enter Try.func77, Try.ntmps77
      go_wp2_with fail
      refine (H.out).mono ?_
      rintro e w' ⟨rfl, rfl⟩
      go_wp2_with fail
      go_ret
      exact ⟨rfl, rfl⟩
set_option maxRecDepth 100000 in
theorem fgt32_ret (x y : Nat) (w : World) (hx : x < 4294967296) (hy : y < 4294967296) : Calls Try.prog 79 #[.int .u32 (x : Int), .int .u32 (y : Int)] w (RetW (.bool (gtB (widen x) (widen y))) w) := by
  have H1 := Lib.hid (f32to64_ret x w hx)
  have H2 := Lib.hid (f32to64_ret y w hy)
  have H := Lib.hid (fcmp64_ret (widen x) (widen y) w (widen_lt x) (widen_lt y))
  unfold gtB
  generalize cmpN (widen x) (widen y) = n at *
  generalize cmpR (widen x) (widen y) = c at *
  generalize widen x = wx at *
  generalize widen y = wy at *
  clear hx hy
  cases n
  all_goals by_cases hc : 1 ≤ c
  all_goals
    first
      | (have hd : decide (1 ≤ c) = true := decide_eq_true hc; rw [hd])
      | (have hd : decide (1 ≤ c) = false := decide_eq_false hc; rw [hd])
    go_enter Try.func79, Try.ntmps79
    go_wp2_with fail
    refine (H1.out).mono ?_
    rintro e w' ⟨rfl, rfl⟩
    go_wp2_with fail
    refine (H2.out).mono ?_
    rintro e w' ⟨rfl, rfl⟩
    go_wp2_with fail
    refine (H.out).mono ?_
    rintro e w' ⟨rfl, rfl⟩
    go_wp2_with fail
    go_ret
    exact ⟨rfl, rfl⟩
set_option maxRecDepth 100000 in
theorem fadd32_raw (x : Nat) (y : Nat) (w : World) (hx : x < 4294967296) (hy : y < 4294967296) : Calls Try.prog 80 #[.int .u32 (x : Int), .int .u32 (y : Int)] w (RetW (.int .u32 ((narrow (add64 (widen x) (widen y)) : Nat) : Int)) w) := by
  have K0 := f32to64_ret x w hx
  have K1 := f32to64_ret y w hy
  have K2 := fadd64_ret (widen x) (widen y) w (widen_lt x) (widen_lt y)
  have K3 := f64to32_ret (add64 (widen x) (widen y)) w (add_lt64 (widen_lt x) (widen_lt y))
  generalize narrow (add64 (widen x) (widen y)) = g0 at *
  generalize add64 (widen x) (widen y) = g1 at *
  generalize widen x = g2 at *
  generalize widen y = g3 at *
  have H0 := Lib.hid K0
  have H1 := Lib.hid K1
  have H2 := Lib.hid K2
  have H3 := Lib.hid K3
  clear hx hy K0 K1 K2 K3
  go_enter Try.func80, Try.ntmps80
  go_wp2_with fail
  refine (H0.out).mono ?_
  rintro e w' ⟨rfl, rfl⟩
  go_wp2_with fail
  refine (H1.out).mono ?_
  rintro e w' ⟨rfl, rfl⟩
  go_wp2_with fail
  refine (H2.out).mono ?_
  rintro e w' ⟨rfl, rfl⟩
  go_wp2_with fail
  refine (H3.out).mono ?_
  rintro e w' ⟨rfl, rfl⟩
  go_wp2_with fail
  go_ret
  exact ⟨rfl, rfl⟩
end Go.Proofs.Ytignbdajgnnlpaa.SF
