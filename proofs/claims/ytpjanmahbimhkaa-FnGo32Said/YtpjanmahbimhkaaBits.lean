/-
  Plain facts on numbers of 64 and 32 bits, in the walk's own spelling.
-/
import Derived.WalkKit
import Derived.Laws.BitsAllLaws
import Derived.Lib.Hide
import Derived.Test.YtpjanmahbimhkaaPack
namespace Go.Proofs.Ytpjanmahbimhkaa.SF
open Go.RowKit

def U64 : Nat := 18446744073709551616
def U32 : Nat := 4294967296

theorem wrap_u64_nat {n : Nat} (h : n < 18446744073709551616) : IntKind.u64.wrap (n : Int) = (n : Int) := by
  rw [IntKind.wrap_u64]; omega
theorem wrap_u32_nat {n : Nat} (h : n < 4294967296) : IntKind.u32.wrap (n : Int) = (n : Int) := by
  rw [IntKind.wrap_u32']; omega

theorem and_one (k : IntKind) (m : Nat) (hk : k = .u64 ∨ k = .u32) (h : m < 2 ^ k.bits) : bits .and k (m : Int) 1 = ((m % 2 : Nat) : Int) := by
  rcases hk with rfl | rfl
  · have := u64_and_nat m 1 h (by decide)
    rw [Nat.and_one_is_mod] at this; exact this
  · have := u32_and_nat m 1 h (by decide)
    rw [Nat.and_one_is_mod] at this; exact this

theorem and_two_nat (m : Nat) : m &&& 2 = m / 2 % 2 * 2 := by
  have := nat_bit 1 m
  simpa using this

theorem and_two (k : IntKind) (m : Nat) (hk : k = .u64 ∨ k = .u32) (h : m < 2 ^ k.bits) : bits .and k (m : Int) 2 = ((m / 2 % 2 * 2 : Nat) : Int) := by
  rcases hk with rfl | rfl
  · have := u64_and_nat m 2 h (by decide)
    rw [and_two_nat] at this; exact this
  · have := u32_and_nat m 2 h (by decide)
    rw [and_two_nat] at this; exact this

theorem or_eq_zero {a b : Nat} : a ||| b = 0 ↔ a = 0 ∧ b = 0 := by
  constructor
  · intro h
    have h1 : a ≤ a ||| b := Nat.left_le_or
    have h2 : b ≤ a ||| b := Nat.right_le_or
    omega
  · rintro ⟨rfl, rfl⟩; rfl

/-- A sticky mark: what is cut off is kept in mind. -/
theorem sticky (k : IntKind) (tr m : Nat) (hk : k = .u64 ∨ k = .u32) (ht : tr < 2 ^ k.bits) (h : m < 2 ^ k.bits) :
    ∃ tr' : Nat, bits .or k (tr : Int) (bits .and k (m : Int) 1) = (tr' : Int) ∧ tr' < 2 ^ k.bits ∧ (tr' ≠ 0 ↔ (tr ≠ 0 ∨ m % 2 = 1)) := by
  rw [and_one k m hk h]
  refine ⟨tr ||| m % 2, ?_, ?_, ?_⟩
  · rcases hk with rfl | rfl
    · exact u64_or_nat tr (m % 2) ht (by show m % 2 < 18446744073709551616; omega)
    · exact u32_or_nat tr (m % 2) ht (by show m % 2 < 4294967296; omega)
  · exact Nat.or_lt_two_pow ht (by rcases hk with rfl | rfl; show m % 2 < 18446744073709551616; omega; show m % 2 < 4294967296; omega)
  · have := @or_eq_zero tr (m % 2)
    constructor
    · intro h0
      by_cases h1 : tr = 0
      · right
        have : ¬ (m % 2 = 0) := fun h2 => h0 (this.mpr ⟨h1, h2⟩)
        omega
      · exact .inl h1
    · intro h0 h1
      have := this.mp h1
      omega

theorem or_disjoint (a b n : Nat) (ha : a % 2 ^ n = 0) (hb : b < 2 ^ n) : a ||| b = a + b := by
  have e : a = (a / 2 ^ n) * 2 ^ n := by
    have := Nat.div_add_mod a (2 ^ n)
    rw [ha] at this
    rw [Nat.mul_comm]; omega
  rw [e, Nat.mul_comm, ← Nat.two_pow_add_eq_or_of_lt hb]

theorem xor_disjoint (a b n : Nat) (ha : a % 2 ^ n = 0) (hb : b < 2 ^ n) : a ^^^ b = a + b := by
  rw [← or_disjoint a b n ha hb]
  apply Nat.eq_of_testBit_eq
  intro i
  rw [Nat.testBit_xor, Nat.testBit_or]
  rcases Nat.lt_or_ge i n with h | h
  · have : a.testBit i = false := by
      have e : a = 2 ^ n * (a / 2 ^ n) := by
        have := Nat.div_add_mod a (2 ^ n)
        omega
      rw [e, Nat.testBit_two_pow_mul]
      simp; omega
    simp [this]
  · have : b.testBit i = false := Nat.testBit_lt_two_pow (Nat.lt_of_lt_of_le hb (Nat.pow_le_pow_right (by omega) h))
    simp [this]

/-- A sign bit in its place. -/
def Sg64 (sg : Nat) : Prop := sg = 0 ∨ sg = 9223372036854775808
def Sg32 (sg : Nat) : Prop := sg = 0 ∨ sg = 2147483648

theorem sg64_mod {sg : Nat} (h : Sg64 sg) : sg % 2 ^ 63 = 0 ∧ sg < 18446744073709551616 := by
  rcases h with rfl | rfl <;> decide
theorem sg32_mod {sg : Nat} (h : Sg32 sg) : sg % 2 ^ 31 = 0 ∧ sg < 4294967296 := by
  rcases h with rfl | rfl <;> decide

theorem or_sg64 {sg m : Nat} (h : Sg64 sg) (hm : m < 9223372036854775808) : bits .or .u64 (sg : Int) (m : Int) = ((sg + m : Nat) : Int) := by
  have hs := sg64_mod h
  rw [u64_or_nat sg m hs.2 (by omega), or_disjoint sg m 63 hs.1 hm]
theorem or_sg32 {sg m : Nat} (h : Sg32 sg) (hm : m < 2147483648) : bits .or .u32 (sg : Int) (m : Int) = ((sg + m : Nat) : Int) := by
  have hs := sg32_mod h
  rw [u32_or_nat sg m hs.2 (by omega), or_disjoint sg m 31 hs.1 hm]
theorem xor_sg64 {sg m : Nat} (h : Sg64 sg) (hm : m < 9223372036854775808) : bits .xor .u64 (sg : Int) (m : Int) = ((sg + m : Nat) : Int) := by
  have hs := sg64_mod h
  rw [u64_xor_nat sg m hs.2 (by omega), xor_disjoint sg m 63 hs.1 hm]
theorem xor_sg32 {sg m : Nat} (h : Sg32 sg) (hm : m < 2147483648) : bits .xor .u32 (sg : Int) (m : Int) = ((sg + m : Nat) : Int) := by
  have hs := sg32_mod h
  rw [u32_xor_nat sg m hs.2 (by omega), xor_disjoint sg m 31 hs.1 hm]

end Go.Proofs.Ytpjanmahbimhkaa.SF
