import Derived.Test.Qxb6608627aDoorFb
namespace Go.Proofs.Qxb6608627aDoor
open Go.RowKit

theorem low52 (M : Nat) (h : M < 18446744073709551616) : bits .and .u64 (M : Int) 4503599627370495 = ((M % 4503599627370496 : Nat) : Int) := by
  have := and_mask M 4503599627370496 52 (by decide) (by decide) h (by decide)
  simpa using this
theorem and52 (M : Nat) (h : M < 18446744073709551616) : bits .and .u64 (M : Int) 4503599627370496 = ((M / 4503599627370496 % 2 * 4503599627370496 : Nat) : Int) := by
  rw [show (4503599627370496 : Int) = ((4503599627370496 : Nat) : Int) from rfl, bits_and_u64_nat _ _ h (by decide)]
  congr 1
  rw [show (4503599627370496 : Nat) = 2 ^ 52 by decide]
  apply Nat.eq_of_testBit_eq
  intro i
  rw [Nat.testBit_and, Nat.testBit_two_pow]
  have h1 : M.testBit 52 = decide (M / 2 ^ 52 % 2 = 1) := Nat.testBit_eq_decide_div_mod_eq
  rcases Nat.mod_two_eq_zero_or_one (M / 2 ^ 52) with e | e
  · rw [e, Nat.zero_mul, Nat.zero_testBit]
    by_cases hi : 52 = i
    · subst hi
      rw [h1, e]; rfl
    · rw [decide_eq_false hi, Bool.and_false]
  · rw [e, Nat.one_mul, Nat.testBit_two_pow]
    by_cases hi : 52 = i
    · subst hi
      rw [h1, e]; rfl
    · rw [decide_eq_false hi, Bool.and_false]
theorem andx (x : Nat) (h : x < 2048) : bits .and .i64 (x : Int) 2047 = (x : Int) := by
  have h1 : (BitVec.ofInt 64 (x : Int)).toNat = x := by
    rw [BitVec.ofInt_natCast, BitVec.toNat_ofNat]; exact Nat.mod_eq_of_lt (by omega)
  have h2 : (BitVec.ofInt 64 (2047 : Int)).toNat = 2047 := by decide
  show IntKind.i64.wrap ((BitVec.ofInt 64 (x : Int) &&& BitVec.ofInt 64 (2047 : Int)).toNat : Int) = _
  rw [BitVec.toNat_and, h1, h2, show (2047 : Nat) = 2 ^ 11 - 1 by decide, Nat.and_two_pow_sub_one_eq_mod, Nat.mod_eq_of_lt (by omega)]
  exact wrap_small _ (by omega) (by omega)
theorem or52 (m x : Nat) (hm : m < 4503599627370496) (hx : x < 2048) : bits .or .u64 (m : Int) ((x : Int) * 4503599627370496) = ((m + x * 4503599627370496 : Nat) : Int) := by
  rw [show ((x : Int) * 4503599627370496) = ((x * 4503599627370496 : Nat) : Int) by omega, bits_or_u64_nat _ _ (by omega) (by omega)]
  congr 1
  have := Nat.shiftLeft_add_eq_or_of_lt (b := m) (i := 52) (by simpa using hm) x
  rw [Nat.shiftLeft_eq] at this
  rw [Nat.or_comm, show (4503599627370496 : Nat) = 2 ^ 52 by decide, ← this]
  omega
end Go.Proofs.Qxb6608627aDoor
