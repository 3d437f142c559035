/-
  The walk through mullu: the product of 128 bits.
-/
import Derived.Test.YtpjanmahbimhkaaUnpWalk
namespace Go.Proofs.Ytpjanmahbimhkaa.SF
open Go.ChangeShapes Go.WideShapes Go.ChangeAt Go.RowKit
set_option linter.unusedVariables false

theorem and_lo32 {x : Nat} (hx : x < 18446744073709551616) : bits .and .u64 (x : Int) 4294967295 = ((x % 4294967296 : Nat) : Int) := by
  have := u64_and_nat x 4294967295 hx (by omega)
  rw [nat_mask32] at this
  exact this

theorem mul_parts (u v : Nat) : u * v = (u / 4294967296 * (v / 4294967296)) * 18446744073709551616 + (u / 4294967296 * (v % 4294967296) + u % 4294967296 * (v / 4294967296)) * 4294967296 + u % 4294967296 * (v % 4294967296) := by
  have hu := Nat.div_add_mod u 4294967296
  have hv := Nat.div_add_mod v 4294967296
  generalize u / 4294967296 = u1 at *
  generalize u % 4294967296 = u0 at *
  generalize v / 4294967296 = v1 at *
  generalize v % 4294967296 = v0 at *
  subst hu hv
  rw [Nat.add_mul, Nat.mul_add, Nat.mul_add]
  have e1 : 4294967296 * u1 * (4294967296 * v1) = u1 * v1 * 18446744073709551616 := by
    rw [Nat.mul_mul_mul_comm]; omega
  have e2 : 4294967296 * u1 * v0 = u1 * v0 * 4294967296 := by rw [Nat.mul_assoc]; omega
  have e3 : u0 * (4294967296 * v1) = u0 * v1 * 4294967296 := by rw [Nat.mul_left_comm]; omega
  omega

theorem mullu_hi {u v : Nat} (hu : u < 18446744073709551616) (hv : v < 18446744073709551616) {u0 u1 v0 v1 : Nat} (e1 : u0 = u % 4294967296) (e2 : u1 = u / 4294967296) (e3 : v0 = v % 4294967296) (e4 : v1 = v / 4294967296)
    {t w1 w0 d c b : Int} (hw0 : w0 = IntKind.u64.wrap ((u0 : Int) * v0)) (hb : b = IntKind.u64.wrap ((u1 : Int) * v0)) (ht : t = IntKind.u64.wrap (b + w0 / 4294967296)) (hc : c = IntKind.u64.wrap ((u0 : Int) * v1))
    (hw1 : w1 = IntKind.u64.wrap (bits .and .u64 t 4294967295 + c)) (hd : d = IntKind.u64.wrap ((u1 : Int) * v1)) :
    IntKind.u64.wrap (IntKind.u64.wrap (d + t / 4294967296) + w1 / 4294967296) = ((u * v / 18446744073709551616 : Nat) : Int) := by
  have hp := mul_parts u v
  rw [← e1, ← e2, ← e3, ← e4] at hp
  have b1 : u0 * v0 ≤ 4294967295 * 4294967295 := Nat.mul_le_mul (by omega) (by omega)
  have b2 : u1 * v0 ≤ 4294967295 * 4294967295 := Nat.mul_le_mul (by omega) (by omega)
  have b3 : u0 * v1 ≤ 4294967295 * 4294967295 := Nat.mul_le_mul (by omega) (by omega)
  have b4 : u1 * v1 ≤ 4294967295 * 4294967295 := Nat.mul_le_mul (by omega) (by omega)
  rw [IntKind.wrap_u64] at hw0 hb ht hc hd
  rw [← Int.natCast_mul] at hw0 hb hc hd
  rw [hp]
  generalize u0 * v0 = A at *
  generalize u1 * v0 = B at *
  generalize u0 * v1 = C at *
  generalize u1 * v1 = D at *
  have htn : ∃ tn : Nat, t = (tn : Int) ∧ tn < 18446744073709551616 ∧ tn = B + A / 4294967296 := ⟨B + A / 4294967296, by omega, by omega, rfl⟩
  obtain ⟨tn, rfl, htn, htn2⟩ := htn
  rw [and_lo32 htn, IntKind.wrap_u64] at hw1
  rw [IntKind.wrap_u64, IntKind.wrap_u64]
  omega

def MulPost (u v : Nat) (w : World) : Ending → World → Prop := fun e w' =>
  e = .returned (.tuple #[.int .u64 ((u * v % 18446744073709551616 : Nat) : Int), .int .u64 ((u * v / 18446744073709551616 : Nat) : Int)]) ∧ w = w'

set_option maxRecDepth 100000 in
theorem mullu_any (u v : Nat) (w : World) (hu : u < 18446744073709551616) (hv : v < 18446744073709551616) :
    Calls Try.prog 106 #[.int .u64 (u : Int), .int .u64 (v : Int)] w (MulPost u v w) := by
  have a1 := and_lo32 hu
  have a2 := and_lo32 hv
  have d1 : (u : Int) / 4294967296 = ((u / 4294967296 : Nat) : Int) := by omega
  have d2 : (v : Int) / 4294967296 = ((v / 4294967296 : Nat) : Int) := by omega
  have HU := Lib.hid hu
  have HV := Lib.hid hv
  clear hu hv
  generalize e1 : u % 4294967296 = u0 at a1
  generalize e2 : u / 4294967296 = u1 at d1
  generalize e3 : v % 4294967296 = v0 at a2
  generalize e4 : v / 4294967296 = v1 at d2
  have H1 := Lib.hid e1
  have H2 := Lib.hid e2
  have H3 := Lib.hid e3
  have H4 := Lib.hid e4
  clear e1 e2 e3 e4
  go_enter Try.func106, Try.ntmps106
  go_wp2_with fail
  go_ret2
  have hh := mullu_hi HU.out HV.out H1.out.symm H2.out.symm H3.out.symm H4.out.symm rfl rfl rfl rfl rfl rfl
  have hl : IntKind.u64.wrap ((u : Int) * v) = ((u * v % 18446744073709551616 : Nat) : Int) := by
    rw [IntKind.wrap_u64, ← Int.natCast_mul]; omega
  refine ⟨?_, rfl⟩
  rw [← hh, ← hl]
  rfl
end Go.Proofs.Ytpjanmahbimhkaa.SF
