/-
  PLAIN FACTS on numbers (no Go function in sight), for the seat b6612553aM: bits of time.Time's wall word, and the time's arithmetic.
-/
import Derived.Laws.Bits64b
import Derived.Laws.BitsLemmas
namespace Go.Proofs.Qxb6612553aMods.Plain
open Go

/-- 'wall & nsecMask'. -/
theorem and_mask (n : Int) (h0 : 0 ≤ n) (h1 : n < 1073741824) : bits .and .u64 n 1073741823 = n := by
  obtain ⟨a, rfl⟩ := Int.eq_ofNat_of_zero_le h0
  have h := bits_and_u64_nat a 1073741823 (by omega) (by omega)
  have e : a &&& 1073741823 = a := by
    have := Nat.and_two_pow_sub_one_eq_mod a 30
    rw [show (2 ^ 30 - 1 : Nat) = 1073741823 from by decide] at this
    rw [this]
    omega
  rw [e] at h
  exact h

/-- 'wall & hasMonotonic'. -/
theorem and_mono (n : Int) (h0 : 0 ≤ n) (h1 : n < 1073741824) : bits .and .u64 n 9223372036854775808 = 0 := by
  obtain ⟨a, rfl⟩ := Int.eq_ofNat_of_zero_le h0
  have h := bits_and_u64_nat a 9223372036854775808 (by omega) (by omega)
  have e : a &&& 9223372036854775808 = 0 := by
    apply Nat.eq_of_testBit_eq
    intro i
    rw [Nat.testBit_and, Nat.zero_testBit]
    by_cases hi : i < 63
    · have : Nat.testBit 9223372036854775808 i = false := by
        rw [show (9223372036854775808 : Nat) = 2 ^ 63 from by decide, Nat.testBit_two_pow]
        simp
        omega
      simp [this]
    · have : Nat.testBit a i = false := Nat.testBit_lt_two_pow (Nat.lt_of_lt_of_le (by omega : a < 2 ^ 30) (Nat.pow_le_pow_right (by decide) (by omega)))
      simp [this]
  rw [e] at h
  exact h

/-- 'wall &^ nsecMask'. -/
theorem andNot_mask (n : Int) (h0 : 0 ≤ n) (h1 : n < 1073741824) : bits .andNot .u64 n 1073741823 = 0 := by
  obtain ⟨a, rfl⟩ := Int.eq_ofNat_of_zero_le h0
  have h1' : (BitVec.ofInt 64 (a : Int)).toNat = a := by
    rw [BitVec.ofInt_natCast, BitVec.toNat_ofNat]; exact Nat.mod_eq_of_lt (by omega)
  show IntKind.u64.wrap ((BitVec.ofInt 64 (a : Int) &&& ~~~BitVec.ofInt 64 1073741823).toNat : Int) = _
  have e : BitVec.ofInt 64 (a : Int) &&& ~~~BitVec.ofInt 64 1073741823 = 0#64 := by
    apply BitVec.eq_of_getLsbD_eq
    intro i hi
    rw [BitVec.getLsbD_and, BitVec.getLsbD_not, BitVec.getLsbD_zero]
    by_cases h30 : i < 30
    · have : (BitVec.ofInt 64 1073741823).getLsbD i = true := by
        have e : (BitVec.ofInt 64 1073741823).getLsbD i = Nat.testBit 1073741823 i := by
          show Nat.testBit (BitVec.ofInt 64 1073741823).toNat i = _
          rw [show (BitVec.ofInt 64 1073741823).toNat = 1073741823 from by decide]
        rw [e, show (1073741823 : Nat) = 2 ^ 30 - 1 from by decide, Nat.testBit_two_pow_sub_one]
        simpa using h30
      rw [this]; simp
    · have : (BitVec.ofInt 64 (a : Int)).getLsbD i = false := by
        show Nat.testBit (BitVec.ofInt 64 (a : Int)).toNat i = _
        rw [h1']
        exact Nat.testBit_lt_two_pow (Nat.lt_of_lt_of_le (by omega : a < 2 ^ 30) (Nat.pow_le_pow_right (by decide) (by omega)))
      rw [this]; simp
  rw [e]
  decide

/-- '0 | x'. -/
theorem zero_or (n : Int) (h0 : 0 ≤ n) (h1 : n < 18446744073709551616) : bits .or .u64 0 n = n := by
  obtain ⟨a, rfl⟩ := Int.eq_ofNat_of_zero_le h0
  have h := bits_or_u64_nat 0 a (by omega) (by omega)
  rw [Nat.zero_or] at h
  exact h

/-- 't.wall & u.wall & hasMonotonic'. -/
theorem and_and_mono (n m : Int) (h0 : 0 ≤ n) (h1 : n < 1073741824) (k0 : 0 ≤ m) (k1 : m < 1073741824) : bits .and .u64 (bits .and .u64 n m) 9223372036854775808 = 0 := by
  obtain ⟨a, rfl⟩ := Int.eq_ofNat_of_zero_le h0
  obtain ⟨b, rfl⟩ := Int.eq_ofNat_of_zero_le k0
  rw [bits_and_u64_nat a b (by omega) (by omega)]
  refine and_mono _ (Int.natCast_nonneg _) ?_
  have := Nat.and_le_left (n := a) (m := b)
  omega
end Go.Proofs.Qxb6612553aMods.Plain
