/-
  The packing's contract with a plain function: the nearest float.
-/
import Derived.Test.YtpjanmahbimhkaaArithP
import Derived.Test.YtpjanmahbimhkaaRet
import Derived.Test.YtpjanmahbimhkaaPackWalk
namespace Go.Proofs.Ytpjanmahbimhkaa.SF
open Go.ChangeShapes Go.WideShapes Go.ChangeAt Go.RowKit
set_option linter.unusedVariables false

theorem sb_sgn64 {x : Nat} (hx : x < 18446744073709551616) : sb64 x = sgn64 (neg64 x) 0 := by
  rw [neg_sb64 hx]
  have h := sb_cases64 hx
  unfold sgn64
  rcases h with h | h <;> simp [h]
theorem xor_sgn64 (a b : Bool) : bits .xor .u64 ((sgn64 a 0 : Nat) : Int) ((sgn64 b 0 : Nat) : Int) = ((sgn64 (a != b) 0 : Nat) : Int) := by
  cases a <;> cases b <;> decide
theorem sgn_ne64 (a : Bool) : decide (sgn64 a 0 ≠ 0) = a := by cases a <;> decide
theorem sgn_ne064 (a : Bool) : (((sgn64 a 0 : Nat) : Int) != 0) = a := by cases a <;> decide
theorem sg_sgn64 (a : Bool) : Sg64 (sgn64 a 0) := by cases a; exact .inl rfl; exact .inr rfl
theorem sgn_lt64 (a : Bool) {b : Nat} (hb : b < 9223372036854775808) : sgn64 a b < 18446744073709551616 := by cases a <;> simp [sgn64] <;> omega
theorem sgn_add64 (a : Bool) (b : Nat) : sgn64 a 0 + b = sgn64 a b := by simp [sgn64]
theorem rd_lt64 (a : Bool) (A B : Nat) : rd64 a A B < 18446744073709551616 := sgn_lt64 a (by have := Nat.min_le_right (rn 52 A B) 9218868437227405312; omega)
theorem fpackR64 (neg : Bool) (m tr : Nat) (ex : Int) (A B K t A' B' : Nat) (w : World) (hm0 : 0 < m)
    (he : -200000 ≤ ex) (he' : ex ≤ 200000) (ht64 : 64 ≤ t) (hB : 0 < B) (hst : PSt64 4503599627370496 K A B m tr t ex) (hB' : 0 < B') (heq : A' * (B * 2 ^ K) = A * B') :
    Calls Try.prog 104 #[.int .u64 ((sgn64 neg 0 : Nat) : Int), .int .u64 (m : Int), .int .i64 ex, .int .u64 (tr : Int)] w (RetW (.int .u64 ((rd64 neg A' B' : Nat) : Int)) w) := by
  refine (fpack64_any _ m tr ex A B K t w (Lib.hid (sg_sgn64 neg)) hm0 he he' ht64 hB hst).mono ?_
  rintro e w' ⟨b, hb, rfl, rfl⟩
  refine ⟨?_, rfl⟩
  rw [rd_eq64 neg hb hB' (Nat.mul_pos hB (two_pow_pos K)) heq, sgn_add64]
set_option maxRecDepth 100000 in
theorem fpackZ64 (neg : Bool) (tr : Nat) (ex : Int) (w : World) :
    Calls Try.prog 104 #[.int .u64 ((sgn64 neg 0 : Nat) : Int), .int .u64 0, .int .i64 ex, .int .u64 (tr : Int)] w (RetW (.int .u64 ((sgn64 neg 0 : Nat) : Int)) w) := by
  generalize sgn64 neg 0 = s
  go_enter Try.func104, Try.ntmps104
  go_wp2_with fail
  go_ret
  exact ⟨rfl, rfl⟩
theorem sb_sgn32 {x : Nat} (hx : x < 4294967296) : sb32 x = sgn32 (neg32 x) 0 := by
  rw [neg_sb32 hx]
  have h := sb_cases32 hx
  unfold sgn32
  rcases h with h | h <;> simp [h]
theorem xor_sgn32 (a b : Bool) : bits .xor .u32 ((sgn32 a 0 : Nat) : Int) ((sgn32 b 0 : Nat) : Int) = ((sgn32 (a != b) 0 : Nat) : Int) := by
  cases a <;> cases b <;> decide
theorem sgn_ne32 (a : Bool) : decide (sgn32 a 0 ≠ 0) = a := by cases a <;> decide
theorem sgn_ne032 (a : Bool) : (((sgn32 a 0 : Nat) : Int) != 0) = a := by cases a <;> decide
theorem sg_sgn32 (a : Bool) : Sg32 (sgn32 a 0) := by cases a; exact .inl rfl; exact .inr rfl
theorem sgn_lt32 (a : Bool) {b : Nat} (hb : b < 2147483648) : sgn32 a b < 4294967296 := by cases a <;> simp [sgn32] <;> omega
theorem sgn_add32 (a : Bool) (b : Nat) : sgn32 a 0 + b = sgn32 a b := by simp [sgn32]
theorem rd_lt32 (a : Bool) (A B : Nat) : rd32 a A B < 4294967296 := sgn_lt32 a (by have := Nat.min_le_right (rn 23 A B) 2139095040; omega)
theorem fpackR32 (neg : Bool) (m tr : Nat) (ex : Int) (A B K t A' B' : Nat) (w : World) (hm0 : 0 < m)
    (he : -200000 ≤ ex) (he' : ex ≤ 200000) (ht64 : 64 ≤ t) (hB : 0 < B) (hst : PSt32 8388608 K A B m tr t ex) (hB' : 0 < B') (heq : A' * (B * 2 ^ K) = A * B') :
    Calls Try.prog 111 #[.int .u32 ((sgn32 neg 0 : Nat) : Int), .int .u32 (m : Int), .int .i64 ex, .int .u32 (tr : Int)] w (RetW (.int .u32 ((rd32 neg A' B' : Nat) : Int)) w) := by
  refine (fpack32_any _ m tr ex A B K t w (Lib.hid (sg_sgn32 neg)) hm0 he he' ht64 hB hst).mono ?_
  rintro e w' ⟨b, hb, rfl, rfl⟩
  refine ⟨?_, rfl⟩
  rw [rd_eq32 neg hb hB' (Nat.mul_pos hB (two_pow_pos K)) heq, sgn_add32]
set_option maxRecDepth 100000 in
theorem fpackZ32 (neg : Bool) (tr : Nat) (ex : Int) (w : World) :
    Calls Try.prog 111 #[.int .u32 ((sgn32 neg 0 : Nat) : Int), .int .u32 0, .int .i64 ex, .int .u32 (tr : Int)] w (RetW (.int .u32 ((sgn32 neg 0 : Nat) : Int)) w) := by
  generalize sgn32 neg 0 = s
  go_enter Try.func111, Try.ntmps111
  go_wp2_with fail
  go_ret
  exact ⟨rfl, rfl⟩
end Go.Proofs.Ytpjanmahbimhkaa.SF
