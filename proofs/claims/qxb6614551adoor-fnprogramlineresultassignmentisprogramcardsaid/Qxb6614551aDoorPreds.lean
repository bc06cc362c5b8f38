import Derived.Test.Qxb6614551aDoorSmall
import Derived.Test.Qxb6614551aDoorPlainB
namespace Go.Proofs.Qxb6614551aDoor
open Go.RowKit

def SomeBool (e : Ending) : Prop := ∃ b : Bool, e = .returned (.bool b)
theorem drop_cons' (S : ByteArray) (k : Nat) (h : k < S.size) : S.data.toList.drop k = S[k] :: S.data.toList.drop (k + 1) := by
  have h' : k < S.data.toList.length := by rw [← Lib.size_eq]; exact h
  rw [List.drop_eq_getElem_cons h']; rfl
theorem take_succ (s : ByteArray) (k : Nat) (h : k < s.size) : s.data.toList.take (k + 1) = s.data.toList.take k ++ [s[k]] := by
  rw [List.take_succ_eq_append_getElem (by simpa using h)]; rfl
theorem take_all (s : ByteArray) : s.data.toList.take s.size = s.data.toList := List.take_of_length_le (by rw [← Lib.size_eq]; exact Nat.le_refl _)
def isDigs (s : ByteArray) : Bool := !(s.toList == []) && s.data.toList.all Pl.isDig
def isIdent (s : ByteArray) : Bool := match s.data.toList with
  | [] => false
  | c :: t => Pl.isLet c && t.all Pl.identC

set_option maxRecDepth 100000 in
set_option maxHeartbeats 1000000 in
theorem bytes11 (a b : ByteArray) (w : World) (ha : a.size ≤ maxLen) (hb : b.size ≤ maxLen) :
    Calls Tryd.prog 11 #[.string a, .string b] w fun e w' => SomeBool e ∧ w' = w := by
  unfold maxLen at ha hb
  go_enter Tryd.func11, Tryd.ntmps11
  by_cases h1 : (1048576 : Int) < (a.size : Int)
  · go_wp2; go_ret; exact ⟨⟨_, rfl⟩, rfl⟩
  by_cases h2 : (1048576 : Int) < (b.size : Int)
  · go_wp2; go_ret; exact ⟨⟨_, rfl⟩, rfl⟩
  by_cases h3 : (1048576 : Int) < (a.size : Int) + (b.size : Int)
  · go_wp2; go_ret; exact ⟨⟨_, rfl⟩, rfl⟩
  · go_wp2; go_ret; exact ⟨⟨_, rfl⟩, rfl⟩

set_option maxRecDepth 100000 in
set_option maxHeartbeats 1000000 in
theorem bytes5 (a b c d : ByteArray) (w : World) (ha : a.size ≤ maxLen) (hb : b.size ≤ maxLen) (hc : c.size ≤ maxLen) (hd : d.size ≤ maxLen) :
    Calls Tryd.prog 5 #[.string a, .string b, .string c, .string d] w fun e w' => SomeBool e ∧ w' = w := by
  unfold maxLen at ha hb hc hd
  go_enter Tryd.func5, Tryd.ntmps5
  by_cases h1 : (1048576 : Int) < (a.size : Int)
  · go_wp2; go_ret; exact ⟨⟨_, rfl⟩, rfl⟩
  by_cases h2 : (1048576 : Int) < (b.size : Int)
  · go_wp2; go_ret; exact ⟨⟨_, rfl⟩, rfl⟩
  by_cases h3 : (1048576 : Int) < (a.size : Int) + (b.size : Int)
  · go_wp2; go_ret; exact ⟨⟨_, rfl⟩, rfl⟩
  by_cases h4 : (1048576 : Int) < (c.size : Int)
  · go_wp2; go_ret; exact ⟨⟨_, rfl⟩, rfl⟩
  by_cases h5 : (1048576 : Int) < (a.size : Int) + (b.size : Int) + (c.size : Int)
  · go_wp2; go_ret; exact ⟨⟨_, rfl⟩, rfl⟩
  by_cases h6 : (1048576 : Int) < (d.size : Int)
  · go_wp2; go_ret; exact ⟨⟨_, rfl⟩, rfl⟩
  by_cases h7 : (1048576 : Int) < (a.size : Int) + (b.size : Int) + (c.size : Int) + (d.size : Int)
  · go_wp2; go_ret; exact ⟨⟨_, rfl⟩, rfl⟩
  · go_wp2; go_ret; exact ⟨⟨_, rfl⟩, rfl⟩

theorem digitB_c (d : UInt8) (B : Bool) (h : Pl.isDig d = B) (w : World) : Calls Tryd.prog 13 #[.int .u8 (d.toNat : Int)] w fun e w' => e = .returned (.bool B) ∧ w' = w := h ▸ digitB_walk d w
theorem letterB_c (d : UInt8) (B : Bool) (h : Pl.isLet d = B) (w : World) : Calls Tryd.prog 14 #[.int .u8 (d.toNat : Int)] w fun e w' => e = .returned (.bool B) ∧ w' = w := h ▸ letterB_walk d w

set_option maxRecDepth 100000 in
set_option maxHeartbeats 1000000 in
theorem digs_walk (s : ByteArray) (w : World) (hs : s.size ≤ 16777216) :
    Calls Tryd.prog 6 #[.string s] w fun e w' => e = .returned (.bool (isDigs s)) ∧ w' = w := by
  go_enter Tryd.func6, Tryd.ntmps6
  cases he : (s.toList == [])
  · go_wp2
    go_loop [3] (fun i => ∃ k : Nat, k ≤ s.size ∧ i = .int .i64 k ∧ Hid ((s.data.toList.take k).all Pl.isDig = true)) (fun i => s.size - (intOf i).toNat)
    case atStart => exact ⟨0, Nat.zero_le _, rfl, rfl⟩
    case round =>
      obtain ⟨k, hk, rfl, HK⟩ := hrel
      by_cases hlt : k < s.size
      · have hkz : (k : Int) < (s.size : Int) := by omega
        have hts := take_succ s k hlt
        have hm : s[k] ∈ s.data.toList := Array.getElem_mem_toList (xs := s.data) hlt
        cases hd : Pl.isDig s[k]
        · have HR : Hid (isDigs s = false) := by
            show _ = _
            unfold isDigs
            have : s.data.toList.all Pl.isDig = false := List.all_eq_false.2 ⟨s[k], hm, by rw [hd]; exact Bool.false_ne_true⟩
            rw [this, Bool.and_false]
          clear hts hm HK
          go_wp2_with (go_at_call 13; refine (digitB_c _ false hd _).mono ?_; rintro e w' ⟨rfl, hw⟩; rw [hw])
          go_ret
          exact ⟨retB HR.out.symm, rfl⟩
        · have HK' : Hid ((s.data.toList.take (k + 1)).all Pl.isDig = true) := by
            show _ = _
            rw [hts, List.all_append, HK.out, List.all_cons, List.all_nil, hd]; rfl
          clear hts hm HK
          go_wp2_with (go_at_call 13; refine (digitB_c _ true hd _).mono ?_; rintro e w' ⟨rfl, hw⟩; rw [hw])
          go_round
          case rel => exact ⟨k + 1, by omega, by go_num, HK'⟩
          case measure => simp [intOf]; omega
      · have hkz : ¬ (k : Int) < (s.size : Int) := by omega
        have hk' : k = s.size := by omega
        have HR : Hid (isDigs s = true) := by
          show _ = _
          have := HK.out
          rw [hk', take_all] at this
          unfold isDigs
          rw [he, this]; rfl
        clear HK
        go_wp2
        go_ret
        exact ⟨retB HR.out.symm, rfl⟩
  · have HR : Hid (isDigs s = false) := by show _ = _; unfold isDigs; rw [he]; rfl
    go_wp2
    go_ret
    exact ⟨retB HR.out.symm, rfl⟩
end Go.Proofs.Qxb6614551aDoor
