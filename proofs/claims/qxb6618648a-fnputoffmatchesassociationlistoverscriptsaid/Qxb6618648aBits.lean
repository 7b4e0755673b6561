/-
  SMALL FACTS ON BITS OF A uint64. No walk.
-/
import Derived.Laws.Bits64
namespace Go.Proofs.Qxb6618648a
open Go

theorem bits_and_nat (a b : Nat) (ha : a < 18446744073709551616) (hb : b < 18446744073709551616) :
    bits .and .u64 (a : Int) (b : Int) = ((a &&& b : Nat) : Int) := by
  have hx : a &&& b < 2 ^ 64 := Nat.and_lt_two_pow _ (by omega)
  have h1 : (BitVec.ofInt 64 (a : Int)).toNat = a := by
    rw [BitVec.ofInt_natCast, BitVec.toNat_ofNat]; exact Nat.mod_eq_of_lt (by omega)
  have h2 : (BitVec.ofInt 64 (b : Int)).toNat = b := by
    rw [BitVec.ofInt_natCast, BitVec.toNat_ofNat]; exact Nat.mod_eq_of_lt (by omega)
  show IntKind.u64.wrap ((BitVec.ofInt 64 (a : Int) &&& BitVec.ofInt 64 (b : Int)).toNat : Int) = _
  rw [BitVec.toNat_and, h1, h2, IntKind.wrap_u64]
  omega

theorem bits_or_nat (a b : Nat) (ha : a < 18446744073709551616) (hb : b < 18446744073709551616) :
    bits .or .u64 (a : Int) (b : Int) = ((a ||| b : Nat) : Int) := by
  have hx : a ||| b < 2 ^ 64 := Nat.or_lt_two_pow (by omega) (by omega)
  have h1 : (BitVec.ofInt 64 (a : Int)).toNat = a := by
    rw [BitVec.ofInt_natCast, BitVec.toNat_ofNat]; exact Nat.mod_eq_of_lt (by omega)
  have h2 : (BitVec.ofInt 64 (b : Int)).toNat = b := by
    rw [BitVec.ofInt_natCast, BitVec.toNat_ofNat]; exact Nat.mod_eq_of_lt (by omega)
  show IntKind.u64.wrap ((BitVec.ofInt 64 (a : Int) ||| BitVec.ofInt 64 (b : Int)).toNat : Int) = _
  rw [BitVec.toNat_or, h1, h2, IntKind.wrap_u64]
  omega

theorem and_mask (a : Int) (h0 : 0 ≤ a) (h1 : a < 1073741824) : bits .and .u64 a 1073741823 = a := by
  obtain ⟨n, rfl⟩ : ∃ n : Nat, a = n := ⟨a.toNat, by omega⟩
  have h := bits_and_nat n 1073741823 (by omega) (by omega)
  have e : n &&& 1073741823 = n % 2 ^ 30 := Nat.and_two_pow_sub_one_eq_mod n 30
  rw [e] at h
  refine Eq.trans h ?_
  omega

theorem and_top (a : Int) (h0 : 0 ≤ a) (h1 : a < 1073741824) : bits .and .u64 a 9223372036854775808 = 0 := by
  obtain ⟨n, rfl⟩ : ∃ n : Nat, a = n := ⟨a.toNat, by omega⟩
  have h := bits_and_nat n 9223372036854775808 (by omega) (by omega)
  have e : n &&& 9223372036854775808 = 0 := by
    apply Nat.eq_of_testBit_eq
    intro i
    have e63 : (9223372036854775808 : Nat) = 2 ^ 63 := by decide
    rw [Nat.testBit_and, e63, Nat.testBit_two_pow, Nat.zero_testBit]
    by_cases hi : 63 = i
    · subst hi
      rw [Nat.testBit_lt_two_pow (Nat.lt_of_lt_of_le (show n < 2 ^ 30 by omega) (by decide))]
      rfl
    · simp [hi]
  rw [e] at h
  exact h

theorem and_zero (a : Int) (h0 : 0 ≤ a) (h1 : a < 1073741824) : bits .and .u64 a 0 = 0 := by
  obtain ⟨n, rfl⟩ : ∃ n : Nat, a = n := ⟨a.toNat, by omega⟩
  have h := bits_and_nat n 0 (by omega) (by omega)
  rw [Nat.and_zero] at h
  exact h

theorem zero_or (a : Int) (h0 : 0 ≤ a) (h1 : a < 1073741824) : bits .or .u64 0 a = a := by
  obtain ⟨n, rfl⟩ : ∃ n : Nat, a = n := ⟨a.toNat, by omega⟩
  have h := bits_or_nat 0 n (by omega) (by omega)
  rw [Nat.zero_or] at h
  exact h

theorem andNot_zero : bits .andNot .u64 0 1073741823 = 0 := by decide +kernel
theorem and_zero_zero : bits .and .u64 0 0 = 0 := by decide +kernel

end Go.Proofs.Qxb6618648a
