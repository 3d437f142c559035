/-
  Contracts that return a value and leave the world as it is.
-/
import Derived.Test.YtpjanmahbimhkaaCmpWalk
import Derived.Test.YtpjanmahbimhkaaFrame
namespace Go.Proofs.Ytpjanmahbimhkaa.SF
open Go.ChangeShapes Go.WideShapes Go.ChangeAt Go.RowKit
set_option linter.unusedVariables false

def RetW (v : Value) (w : World) : Ending → World → Prop := fun e w' => e = .returned v ∧ w = w'

def cmpN (x y : Nat) : Bool := isNaN64 x || isNaN64 y
def cmpR (x y : Nat) : Int := if cmpN x y then 0 else cmpF64 x y
theorem fcmp64_ret (x y : Nat) (w : World) (hx : x < 18446744073709551616) (hy : y < 18446744073709551616) :
    Calls Try.prog 105 #[.int .u64 (x : Int), .int .u64 (y : Int)] w (RetW (.tuple #[.int .i32 (cmpR x y), .bool (cmpN x y)]) w) := by
  refine (fcmp64_any x y w hx hy).mono ?_
  rintro e w' ⟨rfl, h⟩
  refine ⟨?_, rfl⟩
  rcases h with ⟨hn, rfl⟩ | ⟨h1, h2, rfl⟩
  · have : cmpN x y = true := by
      unfold cmpN
      rcases hn with h | h <;> simp [h]
    have e2 : cmpR x y = 0 := if_pos this
    rw [this, e2]
  · have : cmpN x y = false := by simp [cmpN, h1, h2]
    have e2 : cmpR x y = cmpF64 x y := if_neg (by rw [this]; decide)
    rw [this, e2]
end Go.Proofs.Ytpjanmahbimhkaa.SF
