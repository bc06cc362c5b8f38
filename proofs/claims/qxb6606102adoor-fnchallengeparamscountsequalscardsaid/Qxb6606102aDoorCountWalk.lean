import Derived.Test.Qxb6606102aDoorProg
import Derived.WalkKit
import Derived.WalkSpells
import Derived.WalkLawsBesides
import Derived.Maps.OwnSet
namespace Go.Proofs.Qxb6606102aDoor
open Go.RowKit Go.Maps

theorem ret_bool {a b : Bool} (h : a = b) : Ending.returned (.bool a) = .returned (.bool b) := by rw [h]

theorem bytes7_yes (s : ByteArray) (w : World) (hs : s.size ≤ 1048576) :
    Calls Tryd.prog 7 #[.string s] w fun e w' => e = .returned (.bool true) ∧ w' = w := by
  have h1 : ¬ (1048576 : Int) < (s.size : Int) := by omega
  go_enter Tryd.func7, Tryd.ntmps7
  go_wp2
  go_ret
  exact ⟨rfl, rfl⟩
theorem bytes7_no (s : ByteArray) (w : World) (hs : 1048576 < s.size) :
    Calls Tryd.prog 7 #[.string s] w fun e w' => e = .returned (.bool false) ∧ w' = w := by
  have h1 : (1048576 : Int) < (s.size : Int) := by omega
  go_enter Tryd.func7, Tryd.ntmps7
  go_wp2
  go_ret
  exact ⟨rfl, rfl⟩

theorem take_snoc (s : ByteArray) (k : Nat) (h : k < s.size) : s.data.toList.take (k + 1) = s.data.toList.take k ++ [s[k]] := by
  rw [List.take_succ_eq_append_getElem (by simpa using h)]; rfl
def cnt (l : List UInt8) : Int := (l.count 61 : Nat)
theorem cnt_le (l : List UInt8) : 0 ≤ cnt l ∧ cnt l ≤ l.length := by
  unfold cnt
  have := List.count_le_length (a := (61 : UInt8)) (l := l)
  omega
theorem cnt_snoc (l : List UInt8) (c : UInt8) : cnt (l ++ [c]) = cnt l + if ((c.toNat : Int) == 61) then 1 else 0 := by
  unfold cnt
  rw [List.count_append, List.count_singleton]
  have e : (c == 61) = ((c.toNat : Int) == 61) := by
    rw [Bool.eq_iff_iff, beq_iff_eq, beq_iff_eq, ← UInt8.toNat_inj]
    show c.toNat = 61 ↔ _
    omega
  rw [e]
  split <;> simp

/-- What ZZChallengeParams is asked to be (walked elsewhere): behind the call the map has n entries. -/
def Sized (n : Nat) (l : List UInt8) : Prop := n ≤ l.count 61 ∧ (l.count 61 = 0 → n = 0) ∧ (1 ≤ l.count 61 → 1 ≤ n)

theorem count_big (s : ByteArray) (w : World) (hs : 1048576 < s.size) :
    Calls Tryd.prog 3 #[.string s] w fun e w' => e = .returned (.bool true) ∧ Below w.heap.size w w' := by
  go_enter Tryd.func3, Tryd.ntmps3
  go_wp2_with (go_at_call 7; refine (bytes7_no _ _ hs).mono ?_; rintro e w' ⟨rfl, rfl⟩)
  go_ret
  exact ⟨rfl, Below.refl _ _⟩

set_option maxRecDepth 100000 in
set_option maxHeartbeats 1000000 in
theorem count_walk (s : ByteArray) (w : World) (hs : s.size ≤ 1048576)
    (h8 : Hid (∀ W, W = w → Calls Tryd.prog 8 #[.string s] W fun e w' => ∃ b n D, e = .returned (.map (some b)) ∧ w'.ownsMap Tryd.prog 9 (plainElem (H := Unit) Tryd.prog 9) b n D ∧ Sized (Maps.size D) s.data.toList ∧ Below W.heap.size W w')) :
    Calls Tryd.prog 3 #[.string s] w fun e w' => e = .returned (.bool true) ∧ Below w.heap.size w w' := by
  have hs' : ¬ (1048576 : Int) < (s.size : Int) := by omega
  have hq : s.data.toList.length = s.size := by simp
  have hnil : ∀ (w : World) (r : Option Nat), (binOp .eql 23 (.map r) (.map none)).run Tryd.prog w = .ok (.bool r.isNone) w := fun w r => run_eql_map_nil w _ _ _ r Tryd.underlying23
  go_enter Tryd.func3, Tryd.ntmps3
  go_wp2_with (go_at_call 7; refine (bytes7_yes _ _ hs).mono ?_; rintro e w' ⟨rfl, rfl⟩)
  go_loop [3, 4] (fun n i => ∃ k : Nat, k ≤ s.size ∧ i = .int .i64 k ∧ n = .int .i64 (cnt (s.data.toList.take k))) (fun _ i => s.size - (intOf i).toNat)
  case atStart => exact ⟨0, Nat.zero_le _, rfl, rfl⟩
  case round =>
    obtain ⟨k, hk, rfl, rfl⟩ := hrel
    have hd := cnt_le (s.data.toList.take k)
    have hl : (s.data.toList.take k).length ≤ k := List.length_take_le _ _
    by_cases hlt : k < s.size
    · have hsn := cnt_snoc (s.data.toList.take k) s[k]
      have hts := take_snoc s k hlt
      have HS : Hid (cnt (s.data.toList.take (k + 1)) = cnt (s.data.toList.take k) + if ((s[k].toNat : Int) == 61) then 1 else 0) := by rw [hts]; exact hsn
      clear hsn hts
      cases hc : ((s[k].toNat : Int) == 61)
      all_goals
        go_wp2
        go_round
        case rel => exact ⟨k + 1, by omega, by go_num, by rw [HS.out, hc]; simp⟩
        case measure => simp [intOf]; omega
    · have hk' : k = s.size := by omega
      subst hk'
      rw [List.take_of_length_le (by omega)]
      have hd := cnt_le s.data.toList
      obtain ⟨C, hC⟩ : ∃ C, C = cnt s.data.toList := ⟨_, rfl⟩
      have hC0 : 0 ≤ C := by omega
      have HC : Hid (C = cnt s.data.toList) := hC
      rw [← hC]
      clear hC hd hl
      go_wp2_with fail
      refine (h8.out _ rfl).mono ?_
      rintro e w1 ⟨b, n, D, rfl, hown, hsz, hb⟩
      have hD : (Maps.size D : Int) ≤ C := by rw [HC.out]; unfold cnt; have := hsz.1; omega
      by_cases h0 : C = 0
      · have h1 : Maps.size D = 0 := hsz.2.1 (by have := HC.out; unfold cnt at this; omega)
        have h2 : (C == 0) = true := by simp [h0]
        have h3 : ((Maps.size D : Int) == 0) = true := by simp [h1]
        clear hsz h0 h1
        go_wp2_with (first | (at_len; refine wpList_len_own _ rfl _ 23 rfl 9 9 Tryd.underlying23 _ b n D rfl hown ?_))
        go_ret
        exact ⟨rfl, hb⟩
      · have h1 : 1 ≤ Maps.size D := hsz.2.2 (by have := HC.out; unfold cnt at this; omega)
        have h2 : (C == 0) = false := by simp [h0]
        have h3 : (1 : Int) ≤ (Maps.size D : Int) := by omega
        clear hsz h0 h1
        have hln := fun ty => hown.len Tryd.underlying23 ty
        go_wp2
        go_ret
        exact ⟨rfl, hb⟩
end Go.Proofs.Qxb6606102aDoor
