/-
  The walks through the reference: Pack; FromInt, FromUint, Convert.
-/
import Derived.Test.YtdadcbjhjmdheaaRoundX
namespace Go.Proofs.Ytdadcbjhjmdheaa.SF
open Go.ChangeShapes Go.WideShapes Go.ChangeAt Go.RowKit
set_option linter.unusedVariables false

theorem NatAt.drew {w : World} {v : Value} {n : Nat} (h : NatAt w v n) : NatAt w.drew v n := h.below (Below.refl _ _).drew
theorem pow_lt_K {n k K : Nat} (h : n < 2 ^ k) (hk : k ≤ 32 * K) : n < 2 ^ (32 * K) := Nat.lt_of_lt_of_le h (Nat.pow_le_pow_right (by omega) hk)

/-- mant, and a little more -/
def pnum (mant : Nat) (more : Bool) : Nat := mant * 2 ^ 2 + (if more then 1 else 0)

theorem held_nat64 {w W : World} {v : Value} {n : Nat} (h : FB64 w W ∧ NatAt W v n) : NatAt W v n := h.2
theorem held_step64 {w W w1 : World} {v : Value} {n : Nat} (h : FB64 w W ∧ NatAt W v n) (hb : Below W.heap.size W w1) : FB64 w w1 ∧ NatAt w1 v n := ⟨FB64.step h.1 hb, h.2.below hb⟩
theorem held_nat32 {w W : World} {v : Value} {n : Nat} (h : FB32 w W ∧ NatAt W v n) : NatAt W v n := h.2
theorem held_step32 {w W w1 : World} {v : Value} {n : Nat} (h : FB32 w W ∧ NatAt W v n) (hb : Below W.heap.size W w1) : FB32 w w1 ∧ NatAt w1 v n := ⟨FB32.step h.1 hb, h.2.below hb⟩
end Go.Proofs.Ytdadcbjhjmdheaa.SF
