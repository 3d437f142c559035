/-
  The model's float operations, as rules for the walk; a NaN whose bits are not fixed.
-/
import Derived.Test.YtpjanmahbimhkaaIeeeR
import Derived.Test.YtpjanmahbimhkaaFmt
import Derived.Laws.FloatArith
namespace Go.Proofs.Ytpjanmahbimhkaa.SF
open Go.ChangeShapes Go.WideShapes Go.ChangeAt Go.RowKit
set_option linter.unusedVariables false

/-- the NaN that is drawn -/
def nanv64 (w : World) (x y : Nat) : Nat := (Question.nanBits .f64 x y).cut (w.tape w.drawn (.nanBits .f64 x y))
theorem nanv_lt64 (w : World) (x y : Nat) : nanv64 w x y < 18446744073709551616 ∧ isNaN64 (nanv64 w x y) = true := by
  have key : ∀ a b : Nat, a < 2 → b < 4503599627370496 - 1 → a * 9223372036854775808 + 9218868437227405312 + 1 + b < 18446744073709551616 ∧ 9218868437227405312 < (a * 9223372036854775808 + 9218868437227405312 + 1 + b) % 9223372036854775808 := by
    intro a b ha hb
    obtain rfl | rfl : a = 0 ∨ a = 1 := by omega
    · omega
    · omega
  unfold nanv64
  generalize w.tape w.drawn (.nanBits .f64 x y) = t
  have h := key (t % 2) ((t / 2) % (4503599627370496 - 1)) (Nat.mod_lt _ (by omega)) (Nat.mod_lt _ (by omega))
  exact ⟨h.1, nan_iff64.mpr h.2⟩
theorem run_none64 (op : BinOp) (t : TypeId) (x y : Nat) (hop : op = .add ∨ op = .sub ∨ op = .mul ∨ op = .quo) (h : floatBits op .f64 x y = none) (P : Program) (w : World) : (binOp op t (.float .f64 x) (.float .f64 y)).run P w = .ok (.float .f64 (nanv64 w x y)) w.drew := by
  unfold floatBits at h
  rcases hop with rfl | rfl | rfl | rfl
  all_goals
    simp only at h
    simp [binOp, Op.floatArith, h, nanv64, Question.forced]
/-- an operation's result: its bits, or a NaN that is drawn -/
theorem run_add64 {x y : Nat} (hx : x < 18446744073709551616) (hy : y < 18446744073709551616) (t : TypeId) (P : Program) (w : World) : (binOp .add t (.float .f64 x) (.float .f64 y)).run P w = if isNaN64 (add64 x y) then .ok (.float .f64 (nanv64 w x y)) w.drew else .ok (.float .f64 (add64 x y)) w := by
  have h : floatBits .add .f64 x y = if isNaN64 (add64 x y) then none else some (add64 x y) := ie_add64 hx hy
  cases hn : isNaN64 (add64 x y) <;> rw [hn] at h
  · exact run_float_arith w .add t .f64 x y _ h
  · exact run_none64 .add t x y (.inl rfl) h P w
theorem run_sub64 {x y : Nat} (hx : x < 18446744073709551616) (hy : y < 18446744073709551616) (t : TypeId) (P : Program) (w : World) : (binOp .sub t (.float .f64 x) (.float .f64 y)).run P w = if isNaN64 (add64 x (flip64 y)) then .ok (.float .f64 (nanv64 w x y)) w.drew else .ok (.float .f64 (add64 x (flip64 y))) w := by
  have h : floatBits .sub .f64 x y = if isNaN64 (add64 x (flip64 y)) then none else some (add64 x (flip64 y)) := ie_sub64 hx hy
  cases hn : isNaN64 (add64 x (flip64 y)) <;> rw [hn] at h
  · exact run_float_arith w .sub t .f64 x y _ h
  · exact run_none64 .sub t x y (.inr (.inl rfl)) h P w
theorem run_mul64 {x y : Nat} (hx : x < 18446744073709551616) (hy : y < 18446744073709551616) (t : TypeId) (P : Program) (w : World) : (binOp .mul t (.float .f64 x) (.float .f64 y)).run P w = if isNaN64 (mul64 x y) then .ok (.float .f64 (nanv64 w x y)) w.drew else .ok (.float .f64 (mul64 x y)) w := by
  have h : floatBits .mul .f64 x y = if isNaN64 (mul64 x y) then none else some (mul64 x y) := ie_mul64 hx hy
  cases hn : isNaN64 (mul64 x y) <;> rw [hn] at h
  · exact run_float_arith w .mul t .f64 x y _ h
  · exact run_none64 .mul t x y (.inr (.inr (.inl rfl))) h P w
theorem run_div64 {x y : Nat} (hx : x < 18446744073709551616) (hy : y < 18446744073709551616) (t : TypeId) (P : Program) (w : World) : (binOp .quo t (.float .f64 x) (.float .f64 y)).run P w = if isNaN64 (div64 x y) then .ok (.float .f64 (nanv64 w x y)) w.drew else .ok (.float .f64 (div64 x y)) w := by
  have h : floatBits .quo .f64 x y = if isNaN64 (div64 x y) then none else some (div64 x y) := ie_div64 hx hy
  cases hn : isNaN64 (div64 x y) <;> rw [hn] at h
  · exact run_float_arith w .quo t .f64 x y _ h
  · exact run_none64 .quo t x y (.inr (.inr (.inr rfl))) h P w
/-- the NaN that is drawn -/
def nanv32 (w : World) (x y : Nat) : Nat := (Question.nanBits .f32 x y).cut (w.tape w.drawn (.nanBits .f32 x y))
theorem nanv_lt32 (w : World) (x y : Nat) : nanv32 w x y < 4294967296 ∧ isNaN32 (nanv32 w x y) = true := by
  have key : ∀ a b : Nat, a < 2 → b < 8388608 - 1 → a * 2147483648 + 2139095040 + 1 + b < 4294967296 ∧ 2139095040 < (a * 2147483648 + 2139095040 + 1 + b) % 2147483648 := by
    intro a b ha hb
    obtain rfl | rfl : a = 0 ∨ a = 1 := by omega
    · omega
    · omega
  unfold nanv32
  generalize w.tape w.drawn (.nanBits .f32 x y) = t
  have h := key (t % 2) ((t / 2) % (8388608 - 1)) (Nat.mod_lt _ (by omega)) (Nat.mod_lt _ (by omega))
  exact ⟨h.1, nan_iff32.mpr h.2⟩
theorem run_none32 (op : BinOp) (t : TypeId) (x y : Nat) (hop : op = .add ∨ op = .sub ∨ op = .mul ∨ op = .quo) (h : floatBits op .f32 x y = none) (P : Program) (w : World) : (binOp op t (.float .f32 x) (.float .f32 y)).run P w = .ok (.float .f32 (nanv32 w x y)) w.drew := by
  unfold floatBits at h
  rcases hop with rfl | rfl | rfl | rfl
  all_goals
    simp only at h
    simp [binOp, Op.floatArith, h, nanv32, Question.forced]
/-- an operation's result: its bits, or a NaN that is drawn -/
theorem run_add32 {x y : Nat} (hx : x < 4294967296) (hy : y < 4294967296) (t : TypeId) (P : Program) (w : World) : (binOp .add t (.float .f32 x) (.float .f32 y)).run P w = if isNaN32 (add32 x y) then .ok (.float .f32 (nanv32 w x y)) w.drew else .ok (.float .f32 (add32 x y)) w := by
  have h : floatBits .add .f32 x y = if isNaN32 (add32 x y) then none else some (add32 x y) := ie_add32 hx hy
  cases hn : isNaN32 (add32 x y) <;> rw [hn] at h
  · exact run_float_arith w .add t .f32 x y _ h
  · exact run_none32 .add t x y (.inl rfl) h P w
theorem run_sub32 {x y : Nat} (hx : x < 4294967296) (hy : y < 4294967296) (t : TypeId) (P : Program) (w : World) : (binOp .sub t (.float .f32 x) (.float .f32 y)).run P w = if isNaN32 (add32 x (flip32 y)) then .ok (.float .f32 (nanv32 w x y)) w.drew else .ok (.float .f32 (add32 x (flip32 y))) w := by
  have h : floatBits .sub .f32 x y = if isNaN32 (add32 x (flip32 y)) then none else some (add32 x (flip32 y)) := ie_sub32 hx hy
  cases hn : isNaN32 (add32 x (flip32 y)) <;> rw [hn] at h
  · exact run_float_arith w .sub t .f32 x y _ h
  · exact run_none32 .sub t x y (.inr (.inl rfl)) h P w
theorem run_mul32 {x y : Nat} (hx : x < 4294967296) (hy : y < 4294967296) (t : TypeId) (P : Program) (w : World) : (binOp .mul t (.float .f32 x) (.float .f32 y)).run P w = if isNaN32 (mul32 x y) then .ok (.float .f32 (nanv32 w x y)) w.drew else .ok (.float .f32 (mul32 x y)) w := by
  have h : floatBits .mul .f32 x y = if isNaN32 (mul32 x y) then none else some (mul32 x y) := ie_mul32 hx hy
  cases hn : isNaN32 (mul32 x y) <;> rw [hn] at h
  · exact run_float_arith w .mul t .f32 x y _ h
  · exact run_none32 .mul t x y (.inr (.inr (.inl rfl))) h P w
theorem run_div32 {x y : Nat} (hx : x < 4294967296) (hy : y < 4294967296) (t : TypeId) (P : Program) (w : World) : (binOp .quo t (.float .f32 x) (.float .f32 y)).run P w = if isNaN32 (div32 x y) then .ok (.float .f32 (nanv32 w x y)) w.drew else .ok (.float .f32 (div32 x y)) w := by
  have h : floatBits .quo .f32 x y = if isNaN32 (div32 x y) then none else some (div32 x y) := ie_div32 hx hy
  cases hn : isNaN32 (div32 x y) <;> rw [hn] at h
  · exact run_float_arith w .quo t .f32 x y _ h
  · exact run_none32 .quo t x y (.inr (.inr (.inr rfl))) h P w
end Go.Proofs.Ytpjanmahbimhkaa.SF
