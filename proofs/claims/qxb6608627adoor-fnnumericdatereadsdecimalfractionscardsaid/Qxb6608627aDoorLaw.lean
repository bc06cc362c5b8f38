import Derived.Test.Qxb6608627aDoorOwn
namespace Go.Proofs.Qxb6608627aDoor
open Go.RowKit

set_option maxRecDepth 100000 in
set_option maxHeartbeats 1000000 in
theorem bytes_no (A1 A2 : Option Addr) (n1 c1 n2 c2 : Nat) (h : 1048576 < n1 + n2) (w : World) : Calls Tryd.prog 4 #[.slice A1 n1 c1, .slice A2 n2 c2] w fun e w' => e = .returned (.bool false) ∧ w' = w := by
  by_cases h1 : (1048576 : Int) < (n1 : Int)
  · go_enter Tryd.func4, Tryd.ntmps4
    go_wp2_with fail
    go_ret
    exact ⟨rfl, rfl⟩
  · have q1 : decide ((1048576 : Int) < (n1 : Int)) = false := decide_eq_false h1
    by_cases h2 : (1048576 : Int) < (n2 : Int)
    · go_enter Tryd.func4, Tryd.ntmps4
      go_wp2_with fail
      go_ret
      exact ⟨rfl, rfl⟩
    · have q2 : decide ((1048576 : Int) < (n2 : Int)) = false := decide_eq_false h2
      have q3 : (1048576 : Int) < (n1 : Int) + (n2 : Int) := by omega
      go_enter Tryd.func4, Tryd.ntmps4
      go_wp2_with fail
      go_ret
      exact ⟨rfl, rfl⟩
set_option maxRecDepth 100000 in
set_option maxHeartbeats 1000000 in
theorem bytes_yes (A1 A2 : Option Addr) (n1 c1 n2 c2 : Nat) (h : n1 + n2 ≤ 1048576) (w : World) : Calls Tryd.prog 4 #[.slice A1 n1 c1, .slice A2 n2 c2] w fun e w' => e = .returned (.bool true) ∧ w' = w := by
  have q1 : decide ((1048576 : Int) < (n1 : Int)) = false := decide_eq_false (by omega)
  have q2 : decide ((1048576 : Int) < (n2 : Int)) = false := decide_eq_false (by omega)
  have q3 : decide ((1048576 : Int) < (n1 : Int) + (n2 : Int)) = false := decide_eq_false (by omega)
  go_enter Tryd.func4, Tryd.ntmps4
  go_wp2_with fail
  go_ret
  exact ⟨rfl, rfl⟩

def isD (l : List Nat) : Bool := l.all (fun x => decide (48 ≤ x) && decide (x ≤ 57))

set_option maxRecDepth 100000 in
set_option maxHeartbeats 1000000 in
/-- the law, where it says nothing -/
theorem law_no (A1 A2 : Option Addr) (l1 l2 : List Nat) (c1 c2 : Nat) (w : World) (h1 : Sl w A1 l1) (h2 : Sl w A2 l2) (h : 1048576 < l1.length + l2.length ∨ l1 = [] ∨ isD l1 = false ∨ isD l2 = false) :
    Calls Tryd.prog 3 #[.slice A1 l1.length c1, .slice A2 l2.length c2] w fun e w' => e = .returned (.bool true) ∧ w' = w := by
  by_cases hlen : 1048576 < l1.length + l2.length
  · have h4 := bytes_no A1 A2 l1.length c1 l2.length c2 hlen w
    clear h1 h2 h
    go_enter Tryd.func3, Tryd.ntmps3
    go_wp2_with fail
    go_at_call 4
    refine h4.mono ?_
    rintro e w' ⟨rfl, hw⟩
    go_wp2_with fail
    go_ret
    exact ⟨rfl, rfl⟩
  · have h4 := bytes_yes A1 A2 l1.length c1 l2.length c2 (by omega) w
    have d1 := alld_walk A1 l1 c1 (by omega) w h1 (isD l1) rfl
    have d2 := alld_walk A2 l2 c2 (by omega) w h2 (isD l2) rfl
    have h' := h.resolve_left hlen
    have hz : l1 = [] ↔ l1.length = 0 := by simp
    rw [hz] at h'
    clear h hz h1 h2
    obtain ⟨n1, hn1⟩ : ∃ n, l1.length = n := ⟨_, rfl⟩
    obtain ⟨n2, hn2⟩ : ∃ n, l2.length = n := ⟨_, rfl⟩
    obtain ⟨b1, hb1⟩ : ∃ n, isD l1 = n := ⟨_, rfl⟩
    obtain ⟨b2, hb2⟩ : ∃ n, isD l2 = n := ⟨_, rfl⟩
    rw [hn1, hn2] at h4 hlen ⊢
    rw [hn1, hb1] at d1
    rw [hn2, hb2] at d2
    rw [hn1, hb1, hb2] at h'
    clear hn1 hn2 hb1 hb2
    have q1 : decide ((1048576 : Int) < (n1 : Int)) = false := decide_eq_false (by omega)
    have q2 : decide ((1048576 : Int) - (n1 : Int) < (n2 : Int)) = false := decide_eq_false (by omega)
    go_enter Tryd.func3, Tryd.ntmps3
    go_wp2_with fail
    go_at_call 4
    refine h4.mono ?_
    rintro e w' ⟨rfl, hw⟩
    rw [hw]
    by_cases z : n1 = 0
    · subst z
      go_wp2_with fail
      go_ret
      exact ⟨rfl, rfl⟩
    · have z0 : ((n1 : Int) == 0) = false := by rw [beq_eq_false_iff_ne]; omega
      have h'' := h'.resolve_left z
      clear h'
      cases b1 with
      | false =>
        go_wp2_with fail
        go_at_call 5
        refine d1.mono ?_
        rintro e w' ⟨rfl, hw⟩
        rw [hw]
        go_wp2_with fail
        go_ret
        exact ⟨rfl, rfl⟩
      | true =>
        have hb2 : b2 = false := by simpa using h''
        subst hb2
        go_wp2_with fail
        go_at_call 5
        refine d1.mono ?_
        rintro e w' ⟨rfl, hw⟩
        rw [hw]
        go_wp2_with fail
        go_at_call 5
        refine d2.mono ?_
        rintro e w' ⟨rfl, hw⟩
        rw [hw]
        go_wp2_with fail
        go_ret
        exact ⟨rfl, rfl⟩
end Go.Proofs.Qxb6608627aDoor
