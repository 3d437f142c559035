/-
  The reference's comparison, and softfloat's, by the floats' places in the order.
-/
import Derived.Test.YtpjanmahbimhkaaAlgB
import Derived.Test.YtpjanmahbimhkaaSpecCmp
import Derived.Test.YtpjanmahbimhkaaRet
namespace Go.Proofs.Ytpjanmahbimhkaa.SF
open Go.RowKit
set_option linter.unusedVariables false

theorem key_sb0 {x : Nat} (hx : x < 18446744073709551616) (h : sb64 x = 0) : key64 x = mag64 x := by
  unfold key64; rw [neg_sb64 hx, h]; rfl
theorem key_sb1 {x : Nat} (hx : x < 18446744073709551616) (h : sb64 x = 9223372036854775808) : key64 x = -(mag64 x : Int) := by
  unfold key64; rw [neg_sb64 hx, h]; rfl
theorem ord_lt {a b : Int} (h : a < b) : ordI a b = -1 := if_pos h
theorem ord_eq {a b : Int} (h : a = b) : ordI a b = 0 := by unfold ordI; rw [if_neg (by omega), if_pos h]
theorem ord_gt {a b : Int} (h : b < a) : ordI a b = 1 := by unfold ordI; rw [if_neg (by omega), if_neg (by omega)]
theorem cmpF_key {x y : Nat} (hx : x < 18446744073709551616) (hy : y < 18446744073709551616) : cmpF64 x y = ordI (key64 x) (key64 y) := by
  have h2 := sb_add_mag64 x
  have h3 := sb_add_mag64 y
  have m1 := mag_lt64 x
  have m2 := mag_lt64 y
  by_cases hz : mag64 x = 0 ∧ mag64 y = 0
  · rw [cmp_zero hz, ord_eq]
    rw [key_zero64.mpr hz.1, key_zero64.mpr hz.2]
  · rcases sb_cases64 hx with sx | sx <;> rcases sb_cases64 hy with sy | sy
    · have kx := key_sb0 hx sx
      have ky := key_sb0 hy sy
      rcases Nat.lt_trichotomy x y with h | h | h
      · rw [cmp_m hz (by omega) (by omega) ⟨fun _ => sx, fun _ => h⟩, ord_lt (by omega)]
      · rw [cmp_eq hz (by omega) h, ord_eq (by omega)]
      · rw [cmp_p hz (by omega) (by omega) (fun h' => by have := h'.mpr sx; omega), ord_gt (by omega)]
    · have kx := key_sb0 hx sx
      have ky := key_sb1 hy sy
      rw [cmp_lt hz (by omega), ord_gt (by omega)]
    · have kx := key_sb1 hx sx
      have ky := key_sb0 hy sy
      rw [cmp_gt hz (by omega), ord_lt (by omega)]
    · have kx := key_sb1 hx sx
      have ky := key_sb1 hy sy
      rcases Nat.lt_trichotomy x y with h | h | h
      · rw [cmp_p hz (by omega) (by omega) (fun h' => by have := h'.mp h; omega), ord_gt (by omega)]
      · rw [cmp_eq hz (by omega) h, ord_eq (by omega)]
      · rw [cmp_m hz (by omega) (by omega) ⟨fun h' => by omega, fun h' => by omega⟩, ord_lt (by omega)]
end Go.Proofs.Ytpjanmahbimhkaa.SF
