/-
  The walk through the laws by Go's own operators: the parts.
-/
import Derived.Test.YtpjanmahbimhkaaGoF
import Derived.Test.YtpjanmahbimhkaaAlikeW
import Derived.Test.YtpjanmahbimhkaaOrdK
import Derived.Test.YtpjanmahbimhkaaDR2
import Derived.Laws.Externs
namespace Go.Proofs.Ytpjanmahbimhkaa.SF
open Go.ChangeShapes Go.WideShapes Go.ChangeAt Go.RowKit
set_option linter.unusedVariables false

/-- a result, or the NaN that is drawn -/
def fv (n : Bool) (r nv : Nat) : Nat := if n then nv else r
def wv (n : Bool) (w : World) : World := if n then w.drew else w
theorem wv_below {B : Nat} {a w : World} (n : Bool) (h : Below B a w) : Below B a (wv n w) := by
  unfold wv; cases n
  · exact h
  · exact h.drew
theorem wv_size (n : Bool) (w : World) : (wv n w).heap.size = w.heap.size := by unfold wv; cases n <;> rfl
theorem ord_eqB (a b : Int) : ((some (ordO a b) : Option Ordering) == some .eq) = decide (a = b) := by
  unfold ordO
  by_cases h1 : a < b
  · rw [if_pos h1, decide_eq_false (by omega)]; rfl
  · rw [if_neg h1]
    by_cases h2 : a = b
    · rw [if_pos h2, decide_eq_true h2]; rfl
    · rw [if_neg h2, decide_eq_false h2]; rfl
theorem ord_gtB (a b : Int) : ((some (ordO a b) : Option Ordering) == some .gt) = decide (b < a) := by
  unfold ordO
  by_cases h1 : a < b
  · rw [if_pos h1, decide_eq_false (by omega)]; rfl
  · rw [if_neg h1]
    by_cases h2 : a = b
    · rw [if_pos h2, decide_eq_false (by omega)]; rfl
    · rw [if_neg h2, decide_eq_true (by omega)]; rfl
theorem FB64.wv {w W : World} (n : Bool) (h : FB64 w W) : FB64 w (wv n W) := by
  unfold SF.wv; cases n
  · exact h
  · exact FB64.drew h
theorem alike_fv64 {n : Bool} {r : Nat} (hr : r < 18446744073709551616) (hn : isNaN64 r = n) (w w0 : World) (x y : Nat) : Calls Try.prog 40 #[.agg #[.int .i64 53, .int .i64 52, .int .i64 (-1074), .int .u64 2047, .int .u64 9223372036854775808], .int .u64 (r : Int), .int .u64 ((fv n r (nanv64 w0 x y) : Nat) : Int)] w (RetB (.bool true) w) := by
  obtain ⟨h1, h2⟩ := nanv_lt64 w0 x y
  cases n
  · have := alike64_any r r w hr hr
    rw [alike_self64] at this
    exact this
  · have := alike64_any r (nanv64 w0 x y) w hr h1
    unfold alikeB64 at this
    rw [hn, h2, Bool.and_true, Bool.or_true] at this
    exact this
theorem ord_nan64 {x y : Nat} (hx : x < 18446744073709551616) (hy : y < 18446744073709551616) (h : isNaN64 x = true ∨ isNaN64 y = true) : (FloatKind.f64.format.order x y == some .eq) = false ∧ (FloatKind.f64.format.order x y == some .gt) = false := by
  have h2 : FloatKind.f64.format.order x y = none := ie_order_nan64 hx hy h
  rw [h2]; exact ⟨rfl, rfl⟩
theorem ord_key64 {x y : Nat} (hx : x < 18446744073709551616) (hy : y < 18446744073709551616) (nx : isNaN64 x = false) (ny : isNaN64 y = false) : (FloatKind.f64.format.order x y == some .eq) = decide (key64 x = key64 y) ∧ (FloatKind.f64.format.order x y == some .gt) = decide (key64 y < key64 x) := by
  have h2 : FloatKind.f64.format.order x y = some (ordO (key64 x) (key64 y)) := ie_order64 hx hy nx ny
  rw [h2]; exact ⟨ord_eqB _ _, ord_gtB _ _⟩
theorem fadd_fv64 {x y : Nat} (hx : x < 18446744073709551616) (hy : y < 18446744073709551616) (t : TypeId) (P : Program) (w : World) : (binOp .add t (.float .f64 x) (.float .f64 y)).run P w = .ok (.float .f64 (fv (isNaN64 (add64 x y)) (add64 x y) (nanv64 w x y))) (wv (isNaN64 (add64 x y)) w) := by
  rw [run_add64 hx hy]; cases isNaN64 (add64 x y) <;> rfl
theorem fsub_fv64 {x y : Nat} (hx : x < 18446744073709551616) (hy : y < 18446744073709551616) (t : TypeId) (P : Program) (w : World) : (binOp .sub t (.float .f64 x) (.float .f64 y)).run P w = .ok (.float .f64 (fv (isNaN64 (add64 x (flip64 y))) (add64 x (flip64 y)) (nanv64 w x y))) (wv (isNaN64 (add64 x (flip64 y))) w) := by
  rw [run_sub64 hx hy]; cases isNaN64 (add64 x (flip64 y)) <;> rfl
theorem fmul_fv64 {x y : Nat} (hx : x < 18446744073709551616) (hy : y < 18446744073709551616) (t : TypeId) (P : Program) (w : World) : (binOp .mul t (.float .f64 x) (.float .f64 y)).run P w = .ok (.float .f64 (fv (isNaN64 (mul64 x y)) (mul64 x y) (nanv64 w x y))) (wv (isNaN64 (mul64 x y)) w) := by
  rw [run_mul64 hx hy]; cases isNaN64 (mul64 x y) <;> rfl
theorem fdiv_fv64 {x y : Nat} (hx : x < 18446744073709551616) (hy : y < 18446744073709551616) (t : TypeId) (P : Program) (w : World) : (binOp .quo t (.float .f64 x) (.float .f64 y)).run P w = .ok (.float .f64 (fv (isNaN64 (div64 x y)) (div64 x y) (nanv64 w x y))) (wv (isNaN64 (div64 x y)) w) := by
  rw [run_div64 hx hy]; cases isNaN64 (div64 x y) <;> rfl
theorem run_from64 (n : Nat) (w : World) : (callFunc 48 #[.int .u64 (n : Int)]).run Try.prog w = .ok (.value (.float .f64 n)) w := by
  rw [run_callFunc_extern Try.func48 (by kernel_rfl) (by kernel_rfl) (by kernel_rfl) (e := Extern.MathFloatBits.float64frombits) (by kernel_rfl)]; rfl
theorem run_bits64 (n : Nat) (w : World) : (callFunc 49 #[.float .f64 n]).run Try.prog w = .ok (.value (.int .u64 (n : Int))) w := by
  rw [run_callFunc_extern Try.func49 (by kernel_rfl) (by kernel_rfl) (by kernel_rfl) (e := Extern.MathFloatBits.float64bits) (by kernel_rfl)]; rfl
theorem FB32.wv {w W : World} (n : Bool) (h : FB32 w W) : FB32 w (wv n W) := by
  unfold SF.wv; cases n
  · exact h
  · exact FB32.drew h
theorem alike_fv32 {n : Bool} {r : Nat} (hr : r < 4294967296) (hn : isNaN32 r = n) (w w0 : World) (x y : Nat) : Calls Try.prog 40 #[.agg #[.int .i64 24, .int .i64 23, .int .i64 (-149), .int .u64 255, .int .u64 2147483648], .int .u64 (r : Int), .int .u64 ((fv n r (nanv32 w0 x y) : Nat) : Int)] w (RetB (.bool true) w) := by
  obtain ⟨h1, h2⟩ := nanv_lt32 w0 x y
  cases n
  · have := alike32_any r r w hr hr
    rw [alike_self32] at this
    exact this
  · have := alike32_any r (nanv32 w0 x y) w hr h1
    unfold alikeB32 at this
    rw [hn, h2, Bool.and_true, Bool.or_true] at this
    exact this
theorem ord_nan32 {x y : Nat} (hx : x < 4294967296) (hy : y < 4294967296) (h : isNaN32 x = true ∨ isNaN32 y = true) : (FloatKind.f32.format.order x y == some .eq) = false ∧ (FloatKind.f32.format.order x y == some .gt) = false := by
  have h2 : FloatKind.f32.format.order x y = none := ie_order_nan32 hx hy h
  rw [h2]; exact ⟨rfl, rfl⟩
theorem ord_key32 {x y : Nat} (hx : x < 4294967296) (hy : y < 4294967296) (nx : isNaN32 x = false) (ny : isNaN32 y = false) : (FloatKind.f32.format.order x y == some .eq) = decide (key32 x = key32 y) ∧ (FloatKind.f32.format.order x y == some .gt) = decide (key32 y < key32 x) := by
  have h2 : FloatKind.f32.format.order x y = some (ordO (key32 x) (key32 y)) := ie_order32 hx hy nx ny
  rw [h2]; exact ⟨ord_eqB _ _, ord_gtB _ _⟩
theorem fadd_fv32 {x y : Nat} (hx : x < 4294967296) (hy : y < 4294967296) (t : TypeId) (P : Program) (w : World) : (binOp .add t (.float .f32 x) (.float .f32 y)).run P w = .ok (.float .f32 (fv (isNaN32 (add32 x y)) (add32 x y) (nanv32 w x y))) (wv (isNaN32 (add32 x y)) w) := by
  rw [run_add32 hx hy]; cases isNaN32 (add32 x y) <;> rfl
theorem fsub_fv32 {x y : Nat} (hx : x < 4294967296) (hy : y < 4294967296) (t : TypeId) (P : Program) (w : World) : (binOp .sub t (.float .f32 x) (.float .f32 y)).run P w = .ok (.float .f32 (fv (isNaN32 (add32 x (flip32 y))) (add32 x (flip32 y)) (nanv32 w x y))) (wv (isNaN32 (add32 x (flip32 y))) w) := by
  rw [run_sub32 hx hy]; cases isNaN32 (add32 x (flip32 y)) <;> rfl
theorem fmul_fv32 {x y : Nat} (hx : x < 4294967296) (hy : y < 4294967296) (t : TypeId) (P : Program) (w : World) : (binOp .mul t (.float .f32 x) (.float .f32 y)).run P w = .ok (.float .f32 (fv (isNaN32 (mul32 x y)) (mul32 x y) (nanv32 w x y))) (wv (isNaN32 (mul32 x y)) w) := by
  rw [run_mul32 hx hy]; cases isNaN32 (mul32 x y) <;> rfl
theorem fdiv_fv32 {x y : Nat} (hx : x < 4294967296) (hy : y < 4294967296) (t : TypeId) (P : Program) (w : World) : (binOp .quo t (.float .f32 x) (.float .f32 y)).run P w = .ok (.float .f32 (fv (isNaN32 (div32 x y)) (div32 x y) (nanv32 w x y))) (wv (isNaN32 (div32 x y)) w) := by
  rw [run_div32 hx hy]; cases isNaN32 (div32 x y) <;> rfl
theorem run_from32 (n : Nat) (w : World) : (callFunc 39 #[.int .u32 (n : Int)]).run Try.prog w = .ok (.value (.float .f32 n)) w := by
  rw [run_callFunc_extern Try.func39 (by kernel_rfl) (by kernel_rfl) (by kernel_rfl) (e := Extern.MathFloatBits.float32frombits) (by kernel_rfl)]; rfl
theorem run_bits32 (n : Nat) (w : World) : (callFunc 42 #[.float .f32 n]).run Try.prog w = .ok (.value (.int .u32 (n : Int))) w := by
  rw [run_callFunc_extern Try.func42 (by kernel_rfl) (by kernel_rfl) (by kernel_rfl) (e := Extern.MathFloatBits.float32bits) (by kernel_rfl)]; rfl
end Go.Proofs.Ytpjanmahbimhkaa.SF
