import Derived.Test.Qxb6608627aDoorPf
import Derived.Test.Qxb6608627aDoorTb
import Derived.Laws.Externs
namespace Go.Proofs.Qxb6608627aDoor
open Go.RowKit

theorem frombits_run (m : Nat) (w : World) : (callFunc 33 #[.int .u64 (m : Int)]).run Tryd.prog w = .ok (.value (.float .f64 m)) w := by
  rw [run_callFunc_extern (e := Extern.MathFloatBits.float64frombits) Tryd.func33 (by kernel_rfl) (by kernel_rfl) (by kernel_rfl) (by rfl)]
  rfl

theorem andnot52 (m : Nat) (hm : m < 9007199254740992) : bits .andNot .u64 (m : Int) 4503599627370496 = ((m % 4503599627370496 : Nat) : Int) := by
  have h1 : (BitVec.ofInt 64 (m : Int)).toNat = m := by
    rw [BitVec.ofInt_natCast, BitVec.toNat_ofNat]; exact Nat.mod_eq_of_lt (by omega)
  have h2 : (~~~BitVec.ofInt 64 (4503599627370496 : Int)).toNat = 2 ^ 64 - (2 ^ 52 + 1) := by decide
  have h3 : m &&& (2 ^ 64 - (2 ^ 52 + 1)) = m % 2 ^ 52 := by
    apply Nat.eq_of_testBit_eq
    intro i
    rw [Nat.testBit_and, Nat.testBit_two_pow_sub_succ (by decide), Nat.testBit_mod_two_pow, Nat.testBit_two_pow]
    by_cases hi : i < 52
    · rw [decide_eq_true hi, decide_eq_true (by omega : i < 64), decide_eq_false (by omega : ¬ 52 = i)]; simp
    · rw [decide_eq_false hi, Bool.false_and]
      by_cases h52 : 52 = i
      · rw [decide_eq_true h52]; simp
      · rw [Nat.testBit_lt_two_pow (Nat.lt_of_lt_of_le (by omega : m < 2 ^ 53) (Nat.pow_le_pow_right (by decide) (by omega))), Bool.false_and]
  show IntKind.u64.wrap ((BitVec.ofInt 64 (m : Int) &&& ~~~BitVec.ofInt 64 (4503599627370496 : Int)).toNat : Int) = _
  rw [BitVec.toNat_and, h1, h2, h3, show (2 : Nat) ^ 52 = 4503599627370496 by decide, IntKind.wrap_u64]
  omega

set_option maxRecDepth 100000 in
set_option maxHeartbeats 1000000 in
theorem pk_low (m : Nat) (e : Int) (hm : m ≤ 9007199254740992) (h : m / 4503599627370496 % 2 = 0) (w : World) :
    Calls Tryd.prog 52 #[.int .u64 (m : Int), .int .i64 e] w fun r w' => r = .returned (.tuple #[.float .f64 m, .nilIface]) ∧ w' = w := by
  have a1 : bits .and .u64 (m : Int) 4503599627370496 = 0 := by rw [and52 m (by omega), h]; rfl
  have hf : ∀ W, (callFunc 33 #[.int .u64 (m : Int)]).run Tryd.prog W = .ok (.value (.float .f64 m)) W := frombits_run m
  go_enter Tryd.func52, Tryd.ntmps52
  go_wp2
  go_ret2
  exact ⟨rfl, rfl⟩
set_option maxRecDepth 100000 in
set_option maxHeartbeats 1000000 in
theorem pk_over (m : Nat) (e : Int) (hm : m ≤ 9007199254740992) (h : ¬ m / 4503599627370496 % 2 = 0) (he : 972 ≤ e) (w : World) :
    Calls Tryd.prog 52 #[.int .u64 (m : Int), .int .i64 e] w fun r w' => r = .returned (.tuple #[.float .f64 9218868437227405312, .iface 39 (.int .i64 1)]) ∧ w' = w := by
  have a1 : bits .and .u64 (m : Int) 4503599627370496 = 4503599627370496 := by rw [and52 m (by omega), show m / 4503599627370496 % 2 = 1 by omega]; rfl
  have a2 : bits .and .u64 (m : Int) 9223372036854775808 = 0 := by
    have h1 := bits_and_u64_nat m 9223372036854775808 (by omega) (by decide)
    have h2 : m &&& 9223372036854775808 = 0 := by
      apply Nat.eq_of_testBit_eq
      intro i
      rw [Nat.testBit_and, Nat.zero_testBit, show (9223372036854775808 : Nat) = 2 ^ 63 by decide, Nat.testBit_two_pow]
      by_cases hi : 63 = i
      · subst hi
        rw [Nat.testBit_lt_two_pow (by omega : m < 2 ^ 63), Bool.false_and]
      · rw [decide_eq_false hi, Bool.and_false]
    rw [h2] at h1
    exact h1
  have a3 := bx3
  have hf : ∀ W, (callFunc 33 #[.int .u64 9218868437227405312]).run Tryd.prog W = .ok (.value (.float .f64 9218868437227405312)) W := frombits_run 9218868437227405312
  go_enter Tryd.func52, Tryd.ntmps52
  go_wp2
  go_ret2
  exact ⟨rfl, rfl⟩
set_option maxRecDepth 100000 in
set_option maxHeartbeats 1000000 in
theorem pk_num (m x : Nat) (e : Int) (hm : m ≤ 9007199254740992) (h : ¬ m / 4503599627370496 % 2 = 0) (he : e < 972) (hx : 1075 + e = (x : Int)) (w : World) :
    Calls Tryd.prog 52 #[.int .u64 (m : Int), .int .i64 e] w fun r w' => r = .returned (.tuple #[.float .f64 (m % 4503599627370496 + x * 4503599627370496), .nilIface]) ∧ w' = w := by
  have a1 : bits .and .u64 (m : Int) 4503599627370496 = 4503599627370496 := by rw [and52 m (by omega), show m / 4503599627370496 % 2 = 1 by omega]; rfl
  have heb : decide ((972 : Int) ≤ e) = false := decide_eq_false (by omega)
  obtain ⟨ml, hml⟩ : ∃ ml, m % 4503599627370496 = ml := ⟨_, rfl⟩
  have a2 : bits .andNot .u64 (m : Int) 4503599627370496 = (ml : Int) := by rw [← hml]; exact andnot52 m (by omega)
  have a4 : IntKind.u64.wrap (x : Int) = (x : Int) := u64_id (by omega) (by omega)
  have a5 : IntKind.u64.wrap ((x : Int) * 4503599627370496) = (x : Int) * 4503599627370496 := u64_id (by omega) (by omega)
  obtain ⟨Z, hZ⟩ : ∃ Z, ml + x * 4503599627370496 = Z := ⟨_, rfl⟩
  have a6 : bits .or .u64 (ml : Int) ((x : Int) * 4503599627370496) = (Z : Int) := by rw [← hZ]; exact or52 ml x (by omega) (by omega)
  have hf : ∀ W, (callFunc 33 #[.int .u64 (Z : Int)]).run Tryd.prog W = .ok (.value (.float .f64 Z)) W := frombits_run Z
  rw [hml, hZ]
  clear hml hZ h hm
  go_enter Tryd.func52, Tryd.ntmps52
  go_wp2
  go_ret2
  exact ⟨rfl, rfl⟩
end Go.Proofs.Qxb6608627aDoor
