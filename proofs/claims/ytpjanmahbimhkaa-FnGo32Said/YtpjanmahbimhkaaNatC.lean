/-
  The walks through the reference's numbers: NatSub, NatLen, NatShl.
-/
import Derived.Test.YtpjanmahbimhkaaNatB
import Derived.Laws.OwnMore
namespace Go.Proofs.Ytpjanmahbimhkaa.SF
open Go.ChangeShapes Go.WideShapes Go.ChangeAt Go.RowKit
set_option linter.unusedVariables false

theorem dvf_mod {f : Nat → Nat} (hf : ∀ i, f i < 4294967296) (n : Nat) : ∀ m, n ≤ m → ∃ q, dvf f m = dvf f n + q * 2 ^ (32 * n) := by
  intro m
  induction m with
  | zero => intro h; exact ⟨0, by have : n = 0 := by omega
                                  subst this; simp⟩
  | succ m ih =>
    intro h
    by_cases hm : n = m + 1
    · exact ⟨0, by rw [hm]; simp⟩
    · obtain ⟨q, hq⟩ := ih (by omega)
      refine ⟨q + f m * 2 ^ (32 * (m - n)), ?_⟩
      rw [dvf, hq, Nat.add_mul, Nat.mul_assoc, ← Nat.pow_add, show 32 * (m - n) + 32 * n = 32 * m by omega]
      omega

def msSub (n : Nat) (i : Value) : Nat := n - (intOf i).toNat

end Go.Proofs.Ytpjanmahbimhkaa.SF
