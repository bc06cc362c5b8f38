import Derived.Test.Qxb6614551aDoorBase
import Derived.Test.Qxb6614551aDoorPlain
namespace Go.Proofs.Qxb6614551aDoor
open Go.RowKit
theorem retB {a b : Bool} (h : a = b) : Ending.returned (.bool a) = .returned (.bool b) := by rw [h]

set_option maxRecDepth 100000 in
set_option maxHeartbeats 2000000 in
theorem letter_walk (c : UInt8) (w : World) : Calls Tryd.prog 22 #[.int .u8 (c.toNat : Int)] w fun e w' => e = .returned (.bool (Pl.isLet c)) ∧ w' = w := by
  obtain ⟨B, hB⟩ : ∃ B, Pl.isLet c = B := ⟨_, rfl⟩
  rw [hB]
  unfold Pl.isLet at hB
  have hx256 := c.toNat_lt
  obtain ⟨x, hx⟩ : ∃ x, c.toNat = x := ⟨_, rfl⟩
  rw [hx] at hB hx256 ⊢
  clear hx
  go_enter Tryd.func22, Tryd.ntmps22
  have hcl : (97 ≤ x ∧ x ≤ 122) ∨ (123 ≤ x) ∨ (65 ≤ x ∧ x ≤ 90) ∨ (91 ≤ x ∧ x ≤ 94) ∨ (95 ≤ x ∧ x ≤ 95) ∨ (96 ≤ x ∧ x ≤ 96) ∨ (0 ≤ x ∧ x ≤ 64) := by omega
  rcases hcl with ⟨hl, hh⟩ | hl | ⟨hl, hh⟩ | ⟨hl, hh⟩ | ⟨hl, hh⟩ | ⟨hl, hh⟩ | ⟨hl, hh⟩
  · have hv : B = true := by
      rw [← hB]; simp; omega
    have : (97 : Int) ≤ (x : Int) := by omega
    have : (x : Int) ≤ 122 := by omega
    subst hv
    clear hB
    go_wp2
    go_ret
    exact ⟨rfl, rfl⟩
  · have hv : B = false := by
      rw [← hB]; simp; omega
    have : (97 : Int) ≤ (x : Int) := by omega
    have hd122 : decide ((x : Int) ≤ 122) = false := decide_eq_false (by omega)
    have : ¬ (x : Int) ≤ 122 := by omega
    have : (65 : Int) ≤ (x : Int) := by omega
    have hd90 : decide ((x : Int) ≤ 90) = false := decide_eq_false (by omega)
    have : ¬ (x : Int) ≤ 90 := by omega
    have h95 : ((x : Int) == 95) = false := by rw [beq_eq_false_iff_ne]; omega
    subst hv
    clear hB
    go_wp2
    go_ret
    exact ⟨rfl, rfl⟩
  · have hv : B = true := by
      rw [← hB]; simp; omega
    have hd97 : decide ((97 : Int) ≤ (x : Int)) = false := decide_eq_false (by omega)
    have : ¬ (97 : Int) ≤ (x : Int) := by omega
    have : (65 : Int) ≤ (x : Int) := by omega
    have : (x : Int) ≤ 90 := by omega
    subst hv
    clear hB
    go_wp2
    go_ret
    exact ⟨rfl, rfl⟩
  · have hv : B = false := by
      rw [← hB]; simp; omega
    have hd97 : decide ((97 : Int) ≤ (x : Int)) = false := decide_eq_false (by omega)
    have : ¬ (97 : Int) ≤ (x : Int) := by omega
    have : (65 : Int) ≤ (x : Int) := by omega
    have hd90 : decide ((x : Int) ≤ 90) = false := decide_eq_false (by omega)
    have : ¬ (x : Int) ≤ 90 := by omega
    have h95 : ((x : Int) == 95) = false := by rw [beq_eq_false_iff_ne]; omega
    subst hv
    clear hB
    go_wp2
    go_ret
    exact ⟨rfl, rfl⟩
  · have hv : B = true := by
      rw [← hB]; simp; omega
    have hd97 : decide ((97 : Int) ≤ (x : Int)) = false := decide_eq_false (by omega)
    have : ¬ (97 : Int) ≤ (x : Int) := by omega
    have : (65 : Int) ≤ (x : Int) := by omega
    have hd90 : decide ((x : Int) ≤ 90) = false := decide_eq_false (by omega)
    have : ¬ (x : Int) ≤ 90 := by omega
    have h95 : ((x : Int) == 95) = true := by rw [beq_iff_eq]; omega
    subst hv
    clear hB
    go_wp2
    go_ret
    exact ⟨rfl, rfl⟩
  · have hv : B = false := by
      rw [← hB]; simp; omega
    have hd97 : decide ((97 : Int) ≤ (x : Int)) = false := decide_eq_false (by omega)
    have : ¬ (97 : Int) ≤ (x : Int) := by omega
    have : (65 : Int) ≤ (x : Int) := by omega
    have hd90 : decide ((x : Int) ≤ 90) = false := decide_eq_false (by omega)
    have : ¬ (x : Int) ≤ 90 := by omega
    have h95 : ((x : Int) == 95) = false := by rw [beq_eq_false_iff_ne]; omega
    subst hv
    clear hB
    go_wp2
    go_ret
    exact ⟨rfl, rfl⟩
  · have hv : B = false := by
      rw [← hB]; simp; omega
    have hd97 : decide ((97 : Int) ≤ (x : Int)) = false := decide_eq_false (by omega)
    have : ¬ (97 : Int) ≤ (x : Int) := by omega
    have hd65 : decide ((65 : Int) ≤ (x : Int)) = false := decide_eq_false (by omega)
    have : ¬ (65 : Int) ≤ (x : Int) := by omega
    have h95 : ((x : Int) == 95) = false := by rw [beq_eq_false_iff_ne]; omega
    subst hv
    clear hB
    go_wp2
    go_ret
    exact ⟨rfl, rfl⟩

set_option maxRecDepth 100000 in
set_option maxHeartbeats 2000000 in
theorem letterB_walk (c : UInt8) (w : World) : Calls Tryd.prog 14 #[.int .u8 (c.toNat : Int)] w fun e w' => e = .returned (.bool (Pl.isLet c)) ∧ w' = w := by
  obtain ⟨B, hB⟩ : ∃ B, Pl.isLet c = B := ⟨_, rfl⟩
  rw [hB]
  unfold Pl.isLet at hB
  have hx256 := c.toNat_lt
  obtain ⟨x, hx⟩ : ∃ x, c.toNat = x := ⟨_, rfl⟩
  rw [hx] at hB hx256 ⊢
  clear hx
  go_enter Tryd.func14, Tryd.ntmps14
  have hcl : (97 ≤ x ∧ x ≤ 122) ∨ (123 ≤ x) ∨ (65 ≤ x ∧ x ≤ 90) ∨ (91 ≤ x ∧ x ≤ 94) ∨ (95 ≤ x ∧ x ≤ 95) ∨ (96 ≤ x ∧ x ≤ 96) ∨ (0 ≤ x ∧ x ≤ 64) := by omega
  rcases hcl with ⟨hl, hh⟩ | hl | ⟨hl, hh⟩ | ⟨hl, hh⟩ | ⟨hl, hh⟩ | ⟨hl, hh⟩ | ⟨hl, hh⟩
  · have hv : B = true := by
      rw [← hB]; simp; omega
    have : (97 : Int) ≤ (x : Int) := by omega
    have : (x : Int) ≤ 122 := by omega
    subst hv
    clear hB
    go_wp2
    go_ret
    exact ⟨rfl, rfl⟩
  · have hv : B = false := by
      rw [← hB]; simp; omega
    have : (97 : Int) ≤ (x : Int) := by omega
    have hd122 : decide ((x : Int) ≤ 122) = false := decide_eq_false (by omega)
    have : ¬ (x : Int) ≤ 122 := by omega
    have : (65 : Int) ≤ (x : Int) := by omega
    have hd90 : decide ((x : Int) ≤ 90) = false := decide_eq_false (by omega)
    have : ¬ (x : Int) ≤ 90 := by omega
    have h95 : ((x : Int) == 95) = false := by rw [beq_eq_false_iff_ne]; omega
    subst hv
    clear hB
    go_wp2
    go_ret
    exact ⟨rfl, rfl⟩
  · have hv : B = true := by
      rw [← hB]; simp; omega
    have hd97 : decide ((97 : Int) ≤ (x : Int)) = false := decide_eq_false (by omega)
    have : ¬ (97 : Int) ≤ (x : Int) := by omega
    have : (65 : Int) ≤ (x : Int) := by omega
    have : (x : Int) ≤ 90 := by omega
    subst hv
    clear hB
    go_wp2
    go_ret
    exact ⟨rfl, rfl⟩
  · have hv : B = false := by
      rw [← hB]; simp; omega
    have hd97 : decide ((97 : Int) ≤ (x : Int)) = false := decide_eq_false (by omega)
    have : ¬ (97 : Int) ≤ (x : Int) := by omega
    have : (65 : Int) ≤ (x : Int) := by omega
    have hd90 : decide ((x : Int) ≤ 90) = false := decide_eq_false (by omega)
    have : ¬ (x : Int) ≤ 90 := by omega
    have h95 : ((x : Int) == 95) = false := by rw [beq_eq_false_iff_ne]; omega
    subst hv
    clear hB
    go_wp2
    go_ret
    exact ⟨rfl, rfl⟩
  · have hv : B = true := by
      rw [← hB]; simp; omega
    have hd97 : decide ((97 : Int) ≤ (x : Int)) = false := decide_eq_false (by omega)
    have : ¬ (97 : Int) ≤ (x : Int) := by omega
    have : (65 : Int) ≤ (x : Int) := by omega
    have hd90 : decide ((x : Int) ≤ 90) = false := decide_eq_false (by omega)
    have : ¬ (x : Int) ≤ 90 := by omega
    have h95 : ((x : Int) == 95) = true := by rw [beq_iff_eq]; omega
    subst hv
    clear hB
    go_wp2
    go_ret
    exact ⟨rfl, rfl⟩
  · have hv : B = false := by
      rw [← hB]; simp; omega
    have hd97 : decide ((97 : Int) ≤ (x : Int)) = false := decide_eq_false (by omega)
    have : ¬ (97 : Int) ≤ (x : Int) := by omega
    have : (65 : Int) ≤ (x : Int) := by omega
    have hd90 : decide ((x : Int) ≤ 90) = false := decide_eq_false (by omega)
    have : ¬ (x : Int) ≤ 90 := by omega
    have h95 : ((x : Int) == 95) = false := by rw [beq_eq_false_iff_ne]; omega
    subst hv
    clear hB
    go_wp2
    go_ret
    exact ⟨rfl, rfl⟩
  · have hv : B = false := by
      rw [← hB]; simp; omega
    have hd97 : decide ((97 : Int) ≤ (x : Int)) = false := decide_eq_false (by omega)
    have : ¬ (97 : Int) ≤ (x : Int) := by omega
    have hd65 : decide ((65 : Int) ≤ (x : Int)) = false := decide_eq_false (by omega)
    have : ¬ (65 : Int) ≤ (x : Int) := by omega
    have h95 : ((x : Int) == 95) = false := by rw [beq_eq_false_iff_ne]; omega
    subst hv
    clear hB
    go_wp2
    go_ret
    exact ⟨rfl, rfl⟩

set_option maxRecDepth 100000 in
set_option maxHeartbeats 2000000 in
theorem digit_walk (c : UInt8) (w : World) : Calls Tryd.prog 23 #[.int .u8 (c.toNat : Int)] w fun e w' => e = .returned (.bool (Pl.isDig c)) ∧ w' = w := by
  obtain ⟨B, hB⟩ : ∃ B, Pl.isDig c = B := ⟨_, rfl⟩
  rw [hB]
  unfold Pl.isDig at hB
  have hx256 := c.toNat_lt
  obtain ⟨x, hx⟩ : ∃ x, c.toNat = x := ⟨_, rfl⟩
  rw [hx] at hB hx256 ⊢
  clear hx
  go_enter Tryd.func23, Tryd.ntmps23
  by_cases h1 : (48 : Int) ≤ (x : Int)
  · by_cases h2 : (x : Int) ≤ 57
    · have hv : B = true := by rw [← hB]; simp; omega
      subst hv
      clear hB
      go_wp2
      go_ret
      exact ⟨rfl, rfl⟩
    · have hv : B = false := by rw [← hB]; simp; omega
      have h2b : decide ((x : Int) ≤ 57) = false := decide_eq_false h2
      subst hv
      clear hB
      go_wp2
      go_ret
      exact ⟨rfl, rfl⟩
  · have hv : B = false := by rw [← hB]; simp; omega
    have h1b : decide ((48 : Int) ≤ (x : Int)) = false := decide_eq_false h1
    subst hv
    clear hB
    go_wp2
    go_ret
    exact ⟨rfl, rfl⟩

set_option maxRecDepth 100000 in
set_option maxHeartbeats 2000000 in
theorem digitB_walk (c : UInt8) (w : World) : Calls Tryd.prog 13 #[.int .u8 (c.toNat : Int)] w fun e w' => e = .returned (.bool (Pl.isDig c)) ∧ w' = w := by
  obtain ⟨B, hB⟩ : ∃ B, Pl.isDig c = B := ⟨_, rfl⟩
  rw [hB]
  unfold Pl.isDig at hB
  have hx256 := c.toNat_lt
  obtain ⟨x, hx⟩ : ∃ x, c.toNat = x := ⟨_, rfl⟩
  rw [hx] at hB hx256 ⊢
  clear hx
  go_enter Tryd.func13, Tryd.ntmps13
  by_cases h1 : (48 : Int) ≤ (x : Int)
  · by_cases h2 : (x : Int) ≤ 57
    · have hv : B = true := by rw [← hB]; simp; omega
      subst hv
      clear hB
      go_wp2
      go_ret
      exact ⟨rfl, rfl⟩
    · have hv : B = false := by rw [← hB]; simp; omega
      have h2b : decide ((x : Int) ≤ 57) = false := decide_eq_false h2
      subst hv
      clear hB
      go_wp2
      go_ret
      exact ⟨rfl, rfl⟩
  · have hv : B = false := by rw [← hB]; simp; omega
    have h1b : decide ((48 : Int) ≤ (x : Int)) = false := decide_eq_false h1
    subst hv
    clear hB
    go_wp2
    go_ret
    exact ⟨rfl, rfl⟩
end Go.Proofs.Qxb6614551aDoor
