/-
  The walk of a law.
-/
import Derived.Test.YteajgejpjodfbaaUnpI
import Derived.Test.YteajgejpjodfbaaFmt
import Derived.Test.YteajgejpjodfbaaFrame
namespace Go.Proofs.Yteajgejpjodfbaa.SF
open Go.ChangeShapes Go.WideShapes Go.ChangeAt Go.RowKit
set_option linter.unusedVariables false
set_option maxRecDepth 100000 in
set_option maxHeartbeats 4000000 in
theorem fnUnpackPack64 (x : Nat) (w : World) (hx : x < 18446744073709551616) : Calls Try.prog 13 #[.int .u64 (x : Int)] w (LawPost w) := by
  have UP := fun w => implUnpack64 x w hx
  have FI := fun w => ffin64_any x w hx
  have ls := sgn_lt64 (neg64 x) (b := 0) (by omega)
  have lm := um_lt64 x
  cases hf : fin64 x
  · have hk : isInf64 x = true ∨ (isInf64 x = false ∧ isNaN64 x = true) := by
      cases hi : isInf64 x
      · right
        refine ⟨rfl, ?_⟩
        cases hn : isNaN64 x
        · rw [fin_of64 hn hi] at hf; cases hf
        · rfl
      · exact .inl rfl
    rw [hf] at FI
    generalize isInf64 x = i at *
    generalize isNaN64 x = n at *
    generalize sgn64 (neg64 x) 0 = s at *
    generalize um64 x = m at *
    generalize ue64 x = ex at *
    clear hf hx
    rcases hk with rfl | ⟨rfl, rfl⟩
    · skip
      have UP := Lib.hid UP
      have FI := Lib.hid FI
      have B0 := Lib.hid (Below.refl w.heap.size w)
      go_enter Try.func13, Try.ntmps13
      go_wp2_with fail
      refine (UP.out _).mono ?_
      rintro e u1 ⟨rfl, hb⟩
      have B1 := Lib.hid (below_trans' B0.out hb)
      clear hb
      have B1 := Lib.hid (below_trans' B1.out ((Below.refl _ _).alloc (Nat.le_refl _) (.cells #[.int .u64 (s : Int), .int .u64 (m : Int), .int .i64 ex, .bool true, .bool n] 50)))
      go_wp2_with fail
      refine (fmt64_any _).mono ?_
      rintro e u2 ⟨rfl, hb⟩
      have B2 := Lib.hid (below_trans' B1.out hb)
      clear hb
      go_wp2_with fail
      refine (FI.out _).mono ?_
      rintro e u3 ⟨rfl, hb⟩
      have B3 := Lib.hid (below_trans' B2.out hb)
      clear hb
      go_wp2_with fail
      go_ret
      exact ⟨rfl, B3.out⟩
    · skip
      have UP := Lib.hid UP
      have FI := Lib.hid FI
      have B0 := Lib.hid (Below.refl w.heap.size w)
      go_enter Try.func13, Try.ntmps13
      go_wp2_with fail
      refine (UP.out _).mono ?_
      rintro e u1 ⟨rfl, hb⟩
      have B1 := Lib.hid (below_trans' B0.out hb)
      clear hb
      have B1 := Lib.hid (below_trans' B1.out ((Below.refl _ _).alloc (Nat.le_refl _) (.cells #[.int .u64 (s : Int), .int .u64 (m : Int), .int .i64 ex, .bool false, .bool true] 50)))
      go_wp2_with fail
      refine (fmt64_any _).mono ?_
      rintro e u2 ⟨rfl, hb⟩
      have B2 := Lib.hid (below_trans' B1.out hb)
      clear hb
      go_wp2_with fail
      refine (FI.out _).mono ?_
      rintro e u3 ⟨rfl, hb⟩
      have B3 := Lib.hid (below_trans' B2.out hb)
      clear hb
      go_wp2_with fail
      go_ret
      exact ⟨rfl, B3.out⟩
  · have PK := fun w => implPackU64 x w hx hf
    rw [(fin_nan64 hf).1, (fin_nan64 hf).2] at UP
    generalize sgn64 (neg64 x) 0 = s at *
    generalize um64 x = m at *
    generalize ue64 x = ex at *
    clear hf hx FI
    have UP := Lib.hid UP
    have PK := Lib.hid PK
    have B0 := Lib.hid (Below.refl w.heap.size w)
    go_enter Try.func13, Try.ntmps13
    go_wp2_with fail
    refine (UP.out _).mono ?_
    rintro e u1 ⟨rfl, hb⟩
    have B1 := Lib.hid (below_trans' B0.out hb)
    clear hb
    have B1 := Lib.hid (below_trans' B1.out ((Below.refl _ _).alloc (Nat.le_refl _) (.cells #[.int .u64 (s : Int), .int .u64 (m : Int), .int .i64 ex, .bool false, .bool false] 50)))
    go_wp2_with fail
    refine (PK.out _).mono ?_
    rintro e w' ⟨rfl, rfl⟩
    go_wp2_with fail
    go_ret
    exact ⟨rfl, B1.out⟩
end Go.Proofs.Yteajgejpjodfbaa.SF
