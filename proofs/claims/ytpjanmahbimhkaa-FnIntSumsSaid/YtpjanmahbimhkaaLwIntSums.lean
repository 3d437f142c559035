/-
  The walk of a law.
-/
import Derived.Test.YtpjanmahbimhkaaWrapI
import Derived.Test.YtpjanmahbimhkaaWrap
import Derived.Test.YtpjanmahbimhkaaFrame
import Derived.Test.YtpjanmahbimhkaaIntLP
namespace Go.Proofs.Ytpjanmahbimhkaa.SF
open Go.ChangeShapes Go.WideShapes Go.ChangeAt Go.RowKit
set_option linter.unusedVariables false
set_option maxRecDepth 100000 in
set_option maxHeartbeats 4000000 in
theorem fnIntSums (a : Int) (b : Int) (c : Int) (d : Int) (w : World) (ha : -2147483648 ≤ a ∧ a ≤ 2147483647) (hb : -2147483648 ≤ b ∧ b ≤ 2147483647) (hc : -9223372036854775808 ≤ c ∧ c ≤ 9223372036854775807) (hd : -9223372036854775808 ≤ d ∧ d ≤ 9223372036854775807) : Calls Try.prog 5 #[.int .i32 a, .int .i32 b, .int .i64 c, .int .i64 d] w (LawPost w) := by
  obtain ⟨A, hA⟩ : ∃ A : Int, A = a / 32 := ⟨_, rfl⟩
  obtain ⟨B, hB⟩ : ∃ B : Int, B = b / 64 := ⟨_, rfl⟩
  obtain ⟨C, hC⟩ : ∃ C : Int, C = c / 4096 := ⟨_, rfl⟩
  obtain ⟨E, hE⟩ : ∃ E : Int, E = d / 4096 := ⟨_, rfl⟩
  have bA : A.natAbs ≤ 67108864 := by omega
  have bB : B.natAbs ≤ 67108864 := by omega
  have bC : C.natAbs ≤ 4503599627370496 := by omega
  have bE : E.natAbs ≤ 4503599627370496 := by omega
  have I1 := fun w => implFromInt32 A w (by omega)
  have I2 := fun w => implFromInt32 B w (by omega)
  have I3 := fun w => implFromInt64 C w (by omega)
  have I4 := fun w => implFromInt64 E w (by omega)
  have I5 := fun w => implFromInt64 (C + E) w (by omega)
  have I6 := fun w => implFromInt64 (C - E) w (by omega)
  have I7 := fun w => implFromInt64 (A * B) w (mul_bd bA bB)
  have AD := fun w => implAdd64 (fromS64 C) (fromS64 E) w (fromS_lt64 _) (fromS_lt64 _)
  have SB := fun w => implSub64 (fromS64 C) (fromS64 E) w (fromS_lt64 _) (fromS_lt64 _)
  have MU := fun w => implMul64 (fromS64 A) (fromS64 B) w (fromS_lt64 _) (fromS_lt64 _)
  have EQ := fun w => implEq64 (mul64 (fromS64 A) (fromS64 B)) (fromS64 (A * B)) w (mul_lt64 _ _) (fromS_lt64 _)
  rw [from_add bC bE] at AD
  rw [from_sub bC bE] at SB
  rw [eq_mul_from bA bB] at EQ
  have cA : IntKind.i64.wrap A = A := IntWalk.i64_in _ (by omega)
  have cB : IntKind.i64.wrap B = B := IntWalk.i64_in _ (by omega)
  have cCE : IntKind.i64.wrap (C + E) = C + E := IntWalk.i64_in _ (by omega)
  have cCE2 : IntKind.i64.wrap (C - E) = C - E := IntWalk.i64_in _ (by omega)
  have cAB : IntKind.i64.wrap (A * B) = A * B := IntWalk.i64_in _ (mul_bd bA bB)
  have hf : ∀ n : Int, fromN64 (decide (n < 0)) n.natAbs = fromS64 n := fun n => rfl
  rw [hf] at I1 I2 I3 I4 I5 I6 I7
  generalize mul64 (fromS64 A) (fromS64 B) = mu at *
  generalize fromS64 (A * B) = rab at *
  generalize fromS64 (C + E) = rp at *
  generalize fromS64 (C - E) = rm at *
  generalize fromS64 A = ra at *
  generalize fromS64 B = rb at *
  generalize fromS64 C = rc at *
  generalize fromS64 E = re at *
  have eA : a / 32 = A := hA.symm
  have eB : b / 64 = B := hB.symm
  have eC : c / 4096 = C := hC.symm
  have eE : d / 4096 = E := hE.symm
  have I1 := Lib.hid I1
  have I2 := Lib.hid I2
  have I3 := Lib.hid I3
  have I4 := Lib.hid I4
  have I5 := Lib.hid I5
  have I6 := Lib.hid I6
  have I7 := Lib.hid I7
  have AD := Lib.hid AD
  have SB := Lib.hid SB
  have MU := Lib.hid MU
  have EQ := Lib.hid EQ
  clear hA hB hC hE bA bB bC bE hf ha hb hc hd
  have B0 := Lib.hid (Below.refl w.heap.size w)
  go_enter Try.func5, Try.ntmps5
  go_wp2_with fail
  refine (I1.out _).mono ?_
  rintro e w' ⟨rfl, rfl⟩
  go_wp2_with fail
  refine (I2.out _).mono ?_
  rintro e w' ⟨rfl, rfl⟩
  go_wp2_with fail
  refine (I3.out _).mono ?_
  rintro e w' ⟨rfl, rfl⟩
  go_wp2_with fail
  refine (I4.out _).mono ?_
  rintro e w' ⟨rfl, rfl⟩
  go_wp2_with fail
  refine (AD.out _).mono ?_
  rintro e w' ⟨rfl, rfl⟩
  go_wp2_with fail
  refine (I5.out _).mono ?_
  rintro e w' ⟨rfl, rfl⟩
  go_wp2_with fail
  refine (I3.out _).mono ?_
  rintro e w' ⟨rfl, rfl⟩
  go_wp2_with fail
  refine (I4.out _).mono ?_
  rintro e w' ⟨rfl, rfl⟩
  go_wp2_with fail
  refine (SB.out _).mono ?_
  rintro e w' ⟨rfl, rfl⟩
  go_wp2_with fail
  refine (I6.out _).mono ?_
  rintro e w' ⟨rfl, rfl⟩
  go_wp2_with fail
  refine (MU.out _).mono ?_
  rintro e w' ⟨rfl, rfl⟩
  go_wp2_with fail
  refine (I7.out _).mono ?_
  rintro e w' ⟨rfl, rfl⟩
  go_wp2_with fail
  refine (EQ.out _).mono ?_
  rintro e w' ⟨rfl, rfl⟩
  go_wp2_with fail
  go_ret
  exact ⟨rfl, B0.out⟩
end Go.Proofs.Ytpjanmahbimhkaa.SF
