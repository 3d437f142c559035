/-
  The walk of a law.
-/
import Derived.Test.YteajgejpjodfbaaUnpI
import Derived.Test.YteajgejpjodfbaaFmt
import Derived.Test.YteajgejpjodfbaaFrame
namespace Go.Proofs.Yteajgejpjodfbaa.SF
open Go.ChangeShapes Go.WideShapes Go.ChangeAt Go.RowKit
set_option linter.unusedVariables false
set_option maxRecDepth 100000 in
set_option maxHeartbeats 4000000 in
theorem fnUnpackPack32 (x : Nat) (w : World) (hx : x < 4294967296) : Calls Try.prog 11 #[.int .u32 (x : Int)] w (LawPost w) := by
  have UP := fun w => implUnpack32 x w hx
  have FI := fun w => ffin32_any x w hx
  have ls := sgn_lt32 (neg32 x) (b := 0) (by omega)
  have lm := um_lt32 x
  have cx : IntKind.u64.wrap (x : Int) = (x : Int) := wrap_u64_nat (by omega)
  have c1 : IntKind.u32.wrap ((sgn32 (neg32 x) 0 : Nat) : Int) = ((sgn32 (neg32 x) 0 : Nat) : Int) := wrap_u32_nat ls
  have c2 : IntKind.u32.wrap (um32 x : Int) = (um32 x : Int) := wrap_u32_nat lm
  cases hf : fin32 x
  · have hk : isInf32 x = true ∨ (isInf32 x = false ∧ isNaN32 x = true) := by
      cases hi : isInf32 x
      · right
        refine ⟨rfl, ?_⟩
        cases hn : isNaN32 x
        · rw [fin_of32 hn hi] at hf; cases hf
        · rfl
      · exact .inl rfl
    rw [hf] at FI
    generalize isInf32 x = i at *
    generalize isNaN32 x = n at *
    generalize sgn32 (neg32 x) 0 = s at *
    generalize um32 x = m at *
    generalize ue32 x = ex at *
    clear hf hx
    rcases hk with rfl | ⟨rfl, rfl⟩
    · skip
      have UP := Lib.hid UP
      have FI := Lib.hid FI
      have B0 := Lib.hid (Below.refl w.heap.size w)
      go_enter Try.func11, Try.ntmps11
      go_wp2_with fail
      refine (UP.out _).mono ?_
      rintro e u1 ⟨rfl, hb⟩
      have B1 := Lib.hid (below_trans' B0.out hb)
      clear hb
      have B1 := Lib.hid (below_trans' B1.out ((Below.refl _ _).alloc (Nat.le_refl _) (.cells #[.int .u64 (s : Int), .int .u64 (m : Int), .int .i64 ex, .bool true, .bool n] 50)))
      go_wp2_with fail
      refine (fmt32_any _).mono ?_
      rintro e u2 ⟨rfl, hb⟩
      have B2 := Lib.hid (below_trans' B1.out hb)
      clear hb
      go_wp2_with fail
      refine (FI.out _).mono ?_
      rintro e u3 ⟨rfl, hb⟩
      have B3 := Lib.hid (below_trans' B2.out hb)
      clear hb
      go_wp2_with fail
      go_ret
      exact ⟨rfl, B3.out⟩
    · skip
      have UP := Lib.hid UP
      have FI := Lib.hid FI
      have B0 := Lib.hid (Below.refl w.heap.size w)
      go_enter Try.func11, Try.ntmps11
      go_wp2_with fail
      refine (UP.out _).mono ?_
      rintro e u1 ⟨rfl, hb⟩
      have B1 := Lib.hid (below_trans' B0.out hb)
      clear hb
      have B1 := Lib.hid (below_trans' B1.out ((Below.refl _ _).alloc (Nat.le_refl _) (.cells #[.int .u64 (s : Int), .int .u64 (m : Int), .int .i64 ex, .bool false, .bool true] 50)))
      go_wp2_with fail
      refine (fmt32_any _).mono ?_
      rintro e u2 ⟨rfl, hb⟩
      have B2 := Lib.hid (below_trans' B1.out hb)
      clear hb
      go_wp2_with fail
      refine (FI.out _).mono ?_
      rintro e u3 ⟨rfl, hb⟩
      have B3 := Lib.hid (below_trans' B2.out hb)
      clear hb
      go_wp2_with fail
      go_ret
      exact ⟨rfl, B3.out⟩
  · have PK := fun w => implPackU32 x w hx hf
    rw [(fin_nan32 hf).1, (fin_nan32 hf).2] at UP
    generalize sgn32 (neg32 x) 0 = s at *
    generalize um32 x = m at *
    generalize ue32 x = ex at *
    clear hf hx FI
    have UP := Lib.hid UP
    have PK := Lib.hid PK
    have B0 := Lib.hid (Below.refl w.heap.size w)
    go_enter Try.func11, Try.ntmps11
    go_wp2_with fail
    refine (UP.out _).mono ?_
    rintro e u1 ⟨rfl, hb⟩
    have B1 := Lib.hid (below_trans' B0.out hb)
    clear hb
    have B1 := Lib.hid (below_trans' B1.out ((Below.refl _ _).alloc (Nat.le_refl _) (.cells #[.int .u64 (s : Int), .int .u64 (m : Int), .int .i64 ex, .bool false, .bool false] 50)))
    go_wp2_with fail
    refine (PK.out _).mono ?_
    rintro e w' ⟨rfl, rfl⟩
    go_wp2_with fail
    go_ret
    exact ⟨rfl, B1.out⟩
end Go.Proofs.Yteajgejpjodfbaa.SF
