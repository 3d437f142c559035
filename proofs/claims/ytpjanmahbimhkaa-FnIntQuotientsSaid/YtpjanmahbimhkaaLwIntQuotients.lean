/-
  The walk of a law.
-/
import Derived.Test.YtpjanmahbimhkaaWrapI
import Derived.Test.YtpjanmahbimhkaaWrap
import Derived.Test.YtpjanmahbimhkaaFrame
import Derived.Test.YtpjanmahbimhkaaIntLP
namespace Go.Proofs.Ytpjanmahbimhkaa.SF
open Go.ChangeShapes Go.WideShapes Go.ChangeAt Go.RowKit
set_option linter.unusedVariables false
set_option maxRecDepth 100000 in
set_option maxHeartbeats 4000000 in
theorem fnIntQuotients (a : Int) (b : Int) (w : World) (ha : -2147483648 ≤ a ∧ a ≤ 2147483647) (hb : -2147483648 ≤ b ∧ b ≤ 2147483647) : Calls Try.prog 6 #[.int .i32 a, .int .i32 b] w (LawPost w) := by
  obtain ⟨A, hA⟩ : ∃ A : Int, A = a / 32 := ⟨_, rfl⟩
  obtain ⟨B, hB⟩ : ∃ B : Int, B = b / 64 := ⟨_, rfl⟩
  have bA : A.natAbs ≤ 67108864 := by omega
  have bB : B.natAbs ≤ 67108864 := by omega
  have eA : a / 32 = A := hA.symm
  have eB : b / 64 = B := hB.symm
  have C : Hid (∀ w, Calls Try.prog 17 #[.int .i32 1] w (RetW (.int .u64 4607182418800017408) w)) := Lib.hid fun w => by
    have := implFromInt32 1 w (by omega)
    have e : fromN64 (decide ((1 : Int) < 0)) (1 : Int).natAbs = 4607182418800017408 := from_one64
    rwa [e] at this
  have M : Hid (∀ w, Calls Try.prog 21 #[.int .u64 4607182418800017408, .int .u64 4607182418800017408] w (RetW (.int .u64 4607182418800017408) w)) := Lib.hid fun w => by
    have := implMul64 4607182418800017408 4607182418800017408 w (by omega) (by omega)
    rwa [mul_one64 (by decide) (by decide)] at this
  by_cases a0 : A = 0
  · have t1 : (A == 0) = true := beq_iff_eq.mpr a0
    clear hA hB bA bB a0 ha hb
    have B0 := Lib.hid (Below.refl w.heap.size w)
    go_enter Try.func6, Try.ntmps6
    go_wp2_with fail
    refine (C.out _).mono ?_
    rintro e w' ⟨rfl, rfl⟩
    go_wp2_with fail
    refine (C.out _).mono ?_
    rintro e w' ⟨rfl, rfl⟩
    go_wp2_with fail
    refine (M.out _).mono ?_
    rintro e w' ⟨rfl, rfl⟩
    go_wp2_with fail
    refine (C.out _).mono ?_
    rintro e w' ⟨rfl, rfl⟩
    go_wp2_with fail
    go_ret
    exact ⟨rfl, B0.out⟩
  · have t1 : (A == 0) = false := beq_eq_false_iff_ne.mpr a0
    by_cases b0 : B = 0
    · have t2 : (B == 0) = true := beq_iff_eq.mpr b0
      clear hA hB bA bB a0 b0 ha hb
      have B0 := Lib.hid (Below.refl w.heap.size w)
      go_enter Try.func6, Try.ntmps6
      go_wp2_with fail
      refine (C.out _).mono ?_
      rintro e w' ⟨rfl, rfl⟩
      go_wp2_with fail
      refine (C.out _).mono ?_
      rintro e w' ⟨rfl, rfl⟩
      go_wp2_with fail
      refine (M.out _).mono ?_
      rintro e w' ⟨rfl, rfl⟩
      go_wp2_with fail
      refine (C.out _).mono ?_
      rintro e w' ⟨rfl, rfl⟩
      go_wp2_with fail
      go_ret
      exact ⟨rfl, B0.out⟩
    · have t2 : (B == 0) = false := beq_eq_false_iff_ne.mpr b0
      have I1 := fun w => implFromInt32 A w (by omega)
      have I2 := fun w => implFromInt32 B w (by omega)
      have I7 := fun w => implFromInt64 (A * B) w (mul_bd bA bB)
      have DV := fun w => implDiv64 (fromS64 (A * B)) (fromS64 B) w (fromS_lt64 _) (fromS_lt64 _)
      rw [from_div bA bB a0 b0] at DV
      have cA : IntKind.i64.wrap A = A := IntWalk.i64_in _ (by omega)
      have cB : IntKind.i64.wrap B = B := IntWalk.i64_in _ (by omega)
      have cAB : IntKind.i64.wrap (A * B) = A * B := IntWalk.i64_in _ (mul_bd bA bB)
      have hf : ∀ n : Int, fromN64 (decide (n < 0)) n.natAbs = fromS64 n := fun n => rfl
      rw [hf] at I1 I2 I7
      generalize fromS64 (A * B) = rab at *
      generalize fromS64 A = ra at *
      generalize fromS64 B = rb at *
      have I1 := Lib.hid I1
      have I2 := Lib.hid I2
      have I7 := Lib.hid I7
      have DV := Lib.hid DV
      clear hA hB bA bB hf a0 b0 ha hb
      have B0 := Lib.hid (Below.refl w.heap.size w)
      go_enter Try.func6, Try.ntmps6
      go_wp2_with fail
      refine (I7.out _).mono ?_
      rintro e w' ⟨rfl, rfl⟩
      go_wp2_with fail
      refine (I2.out _).mono ?_
      rintro e w' ⟨rfl, rfl⟩
      go_wp2_with fail
      refine (DV.out _).mono ?_
      rintro e w' ⟨rfl, rfl⟩
      go_wp2_with fail
      refine (I1.out _).mono ?_
      rintro e w' ⟨rfl, rfl⟩
      go_wp2_with fail
      refine (C.out _).mono ?_
      rintro e w' ⟨rfl, rfl⟩
      go_wp2_with fail
      go_ret
      exact ⟨rfl, B0.out⟩
end Go.Proofs.Ytpjanmahbimhkaa.SF
