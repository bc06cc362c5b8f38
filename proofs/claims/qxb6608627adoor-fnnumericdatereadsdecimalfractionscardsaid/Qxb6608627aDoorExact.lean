import Derived.Test.Qxb6608627aDoorPack
import Derived.Test.Qxb6608627aDoorRead
import Derived.Laws.FloatArith
namespace Go.Proofs.Qxb6608627aDoor
open Go.RowKit

set_option maxRecDepth 100000 in
set_option maxHeartbeats 1000000 in
theorem special_walk (s : ByteArray) (hs0 : 0 < s.size) (hs : s.size ≤ 4194304) (c0 : UInt8) (hc : dig c0) (hix : ∀ W, (Instr.index 9 (.string s) (.int .i64 0)).run Tryd.prog W = .ok (.int .u8 (c0.toNat : Int)) W) (w : World) :
    Calls Tryd.prog 23 #[.string s] w fun e w' => e = .returned (.tuple #[.float .f64 0, .int .i64 0, .bool false]) ∧ w' = w := by
  have hc' : 48 ≤ c0.toNat ∧ c0.toNat ≤ 57 := hc
  have hz : ((s.size : Int) == 0) = false := by rw [beq_eq_false_iff_ne]; omega
  have h43 : ((c0.toNat : Int) == 43) = false := by rw [beq_eq_false_iff_ne]; omega
  have h45 : ((c0.toNat : Int) == 45) = false := by rw [beq_eq_false_iff_ne]; omega
  have h105 : ((c0.toNat : Int) == 105) = false := by rw [beq_eq_false_iff_ne]; omega
  have h73 : ((c0.toNat : Int) == 73) = false := by rw [beq_eq_false_iff_ne]; omega
  have h110 : ((c0.toNat : Int) == 110) = false := by rw [beq_eq_false_iff_ne]; omega
  have h78 : ((c0.toNat : Int) == 78) = false := by rw [beq_eq_false_iff_ne]; omega
  go_enter Tryd.func23, Tryd.ntmps23
  go_wp2
  go_ret3
  exact ⟨rfl, rfl⟩
set_option maxRecDepth 100000 in
set_option maxHeartbeats 1000000 in
/-- no exact conversion: too great a mantissa -/
theorem ex_big (m : Nat) (e : Int) (hm : 4503599627370496 ≤ m) (hm2 : m < 18446744073709551616) (w : World) (f0 : w.cell? ⟨4, 0, none⟩ = some (.int .u64 52)) :
    Calls Tryd.prog 34 #[.int .u64 (m : Int), .int .i64 e, .bool false] w fun r w' => r = .returned (.tuple #[.float .f64 0, .bool false]) ∧ w' = w := by
  have h1 : ((m : Int) / 4503599627370496 == 0) = false := by rw [beq_eq_false_iff_ne]; omega
  go_enter Tryd.func34, Tryd.ntmps34
  go_wp2
  go_ret2
  exact ⟨rfl, rfl⟩
set_option maxRecDepth 100000 in
set_option maxHeartbeats 1000000 in
theorem ex_zero (m : Nat) (hm : m < 4503599627370496) (w : World) (f0 : w.cell? ⟨4, 0, none⟩ = some (.int .u64 52)) :
    Calls Tryd.prog 34 #[.int .u64 (m : Int), .int .i64 0, .bool false] w fun r w' => r = .returned (.tuple #[.float .f64 (floatOfInt .f64 (m : Int)), .bool true]) ∧ w' = w := by
  have h1 : (m : Int) / 4503599627370496 = 0 := by omega
  go_enter Tryd.func34, Tryd.ntmps34
  go_wp2
  go_ret2
  exact ⟨rfl, rfl⟩
set_option maxRecDepth 100000 in
set_option maxHeartbeats 1000000 in
theorem ex_quo (m k : Nat) (hm : m < 4503599627370496) (hk : 1 ≤ k ∧ k ≤ 22) (fb fbo F R : Nat) (hR : floatBits .quo .f64 (floatOfInt .f64 (m : Int)) F = some R) (w : World) (f0 : w.cell? ⟨4, 0, none⟩ = some (.int .u64 52)) (fp : w.cell? ⟨7, 0, none⟩ = some (.slice (some ⟨fb, fbo, none⟩) 23 23)) (fc : w.cell? ⟨fb, fbo + k, none⟩ = some (.float .f64 F)) :
    Calls Tryd.prog 34 #[.int .u64 (m : Int), .int .i64 (-(k : Int)), .bool false] w fun r w' => r = .returned (.tuple #[.float .f64 R, .bool true]) ∧ w' = w := by
  have h1 : (m : Int) / 4503599627370496 = 0 := by omega
  have hrun : ∀ W, (binOp .quo 25 (.float .f64 (floatOfInt .f64 (m : Int))) (.float .f64 F)).run Tryd.prog W = .ok (.float .f64 R) W := fun W => run_float_arith W .quo 25 .f64 _ _ _ hR
  have he0 : ((-(k : Int)) == 0) = false := by rw [beq_eq_false_iff_ne]; omega
  have hep : decide ((0 : Int) < -(k : Int)) = false := decide_eq_false (by omega)
  have hen : -(k : Int) < 0 := by omega
  have he22 : (-22 : Int) ≤ -(k : Int) := by omega
  have hk23 : (k : Int) < 23 := by omega
  clear hR
  go_enter Tryd.func34, Tryd.ntmps34
  go_wp2
  go_ret2
  exact ⟨rfl, rfl⟩
set_option maxRecDepth 100000 in
set_option maxHeartbeats 1000000 in
theorem ex_far (m : Nat) (e : Int) (hm : m < 4503599627370496) (he : e < -22) (w : World) (f0 : w.cell? ⟨4, 0, none⟩ = some (.int .u64 52)) :
    Calls Tryd.prog 34 #[.int .u64 (m : Int), .int .i64 e, .bool false] w fun r w' => r = .returned (.tuple #[.float .f64 (floatOfInt .f64 (m : Int)), .bool false]) ∧ w' = w := by
  have h1 : (m : Int) / 4503599627370496 = 0 := by omega
  have he0 : (e == 0) = false := by rw [beq_eq_false_iff_ne]; omega
  have hep : decide ((0 : Int) < e) = false := decide_eq_false (by omega)
  have hen : e < 0 := by omega
  have he22 : decide ((-22 : Int) ≤ e) = false := decide_eq_false (by omega)
  go_enter Tryd.func34, Tryd.ntmps34
  go_wp2
  go_ret2
  exact ⟨rfl, rfl⟩
end Go.Proofs.Qxb6608627aDoor
