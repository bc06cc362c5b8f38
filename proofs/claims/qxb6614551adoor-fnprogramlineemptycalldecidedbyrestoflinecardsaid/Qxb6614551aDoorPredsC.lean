import Derived.Test.Qxb6614551aDoorPredsB
namespace Go.Proofs.Qxb6614551aDoor
open Go.RowKit

/-- r and at least one digit -/
def isResL : List UInt8 → Bool
  | [] => false
  | c :: t => (c == 114) && !t.isEmpty && t.all Pl.isDig
def isRes (s : ByteArray) : Bool := isResL s.data.toList
theorem isDigs_eq (s : ByteArray) : isDigs s = (!s.data.toList.isEmpty && s.data.toList.all Pl.isDig) := by
  unfold isDigs
  rw [Lib.toList_data]
  cases s.data.toList <;> rfl
theorem ext_list (s : ByteArray) : (s.extract 1 s.size).data.toList = s.data.toList.drop 1 := by
  rw [Lib.extract_data]
  exact List.take_of_length_le (by rw [List.length_drop, ← Lib.size_eq]; exact Nat.le_refl _)
theorem isRes_short {s : ByteArray} (h : ¬ 2 ≤ s.size) : isRes s = false := by
  unfold isRes
  have hl : s.data.toList.length < 2 := by rw [← Lib.size_eq]; omega
  match hs : s.data.toList with
  | [] => rfl
  | [c] => simp [isResL]
  | c :: d :: t => rw [hs] at hl; simp only [List.length_cons] at hl; omega
theorem isRes_eq {s : ByteArray} (h : 2 ≤ s.size) : isRes s = ((s[0] == 114) && isDigs (s.extract 1 s.size)) := by
  rw [isDigs_eq, ext_list]
  unfold isRes
  rw [list_of_size s (by omega)]
  simp only [isResL, List.drop_one, List.tail_cons, Bool.and_assoc]

set_option maxRecDepth 100000 in
set_option maxHeartbeats 1000000 in
theorem res_walk (s : ByteArray) (w : World) (hs : s.size ≤ 16777216) :
    Calls Tryd.prog 8 #[.string s] w fun e w' => e = .returned (.bool (isRes s)) ∧ w' = w := by
  go_enter Tryd.func8, Tryd.ntmps8
  by_cases h2 : 2 ≤ s.size
  · have h2z : (2 : Int) ≤ (s.size : Int) := by omega
    have h0 : 0 < s.size := by omega
    have h0z : (0 : Int) < (s.size : Int) := by omega
    have h1z : (1 : Int) ≤ (s.size : Int) := by omega
    have HE : Hid (isRes s = ((s[0] == 114) && isDigs (s.extract 1 s.size))) := isRes_eq h2
    by_cases hr : s[0].toNat = 114
    · have hrb : ((s[0].toNat : Int) == 114) = true := bq (n := 114) hr
      have hxs : (s.extract 1 s.size).size ≤ 16777216 := by rw [ByteArray.size_extract]; omega
      cases hd : isDigs (s.extract 1 s.size)
      · have HR : Hid (isRes s = false) := by show _ = _; rw [HE.out, hd, Bool.and_false]
        clear HE
        go_wp2_with (go_at_call 6; refine (digs_walk _ _ hxs).mono ?_; rintro e w' ⟨rfl, hw⟩; rw [hw, hd])
        go_ret
        exact ⟨retB HR.out.symm, rfl⟩
      · have HR : Hid (isRes s = true) := by show _ = _; rw [HE.out, hd, show s[0] = 114 from UInt8.toNat_inj.1 hr]; rfl
        clear HE
        go_wp2_with (go_at_call 6; refine (digs_walk _ _ hxs).mono ?_; rintro e w' ⟨rfl, hw⟩; rw [hw, hd])
        go_ret
        exact ⟨retB HR.out.symm, rfl⟩
    · have hrb : ((s[0].toNat : Int) == 114) = false := bnq (n := 114) hr
      have HR : Hid (isRes s = false) := by show _ = _; rw [HE.out, show (s[0] == 114) = false from beq_eq_false_iff_ne.2 (fun e => hr (by rw [e]; rfl))]; rfl
      clear HE
      go_wp2
      go_ret
      exact ⟨retB HR.out.symm, rfl⟩
  · have h2z : ¬ (2 : Int) ≤ (s.size : Int) := by omega
    have HR : Hid (isRes s = false) := isRes_short h2
    go_wp2
    go_ret
    exact ⟨retB HR.out.symm, rfl⟩

theorem lineHas_yes {c : UInt8} (l : List UInt8) (h : Pl.blank c = true) : Pl.lineHas (c :: l) = Pl.lineHas l := by rw [Pl.lineHas, if_pos h]
theorem lineHas_no {c : UInt8} (l : List UInt8) (h : ¬ Pl.blank c = true) : Pl.lineHas (c :: l) = (!(c == 10) && !(c == 35)) := by rw [Pl.lineHas, if_neg h]
theorem blank_of {c : UInt8} (h : c.toNat = 32 ∨ c.toNat = 9 ∨ c.toNat = 13) : Pl.blank c = true := by
  unfold Pl.blank
  rcases h with h | h | h
  · rw [show c = 32 from UInt8.toNat_inj.1 h]; rfl
  · rw [show c = 9 from UInt8.toNat_inj.1 h]; rfl
  · rw [show c = 13 from UInt8.toNat_inj.1 h]; rfl
theorem blank_not' {c : UInt8} (h : ¬ c.toNat = 32) (h2 : ¬ c.toNat = 9) (h3 : ¬ c.toNat = 13) : ¬ Pl.blank c = true := by
  unfold Pl.blank
  simp only [Bool.or_eq_true, beq_iff_eq, not_or]
  refine ⟨⟨fun e => h (by rw [e]; rfl), fun e => h2 (by rw [e]; rfl)⟩, fun e => h3 (by rw [e]; rfl)⟩

set_option maxRecDepth 100000 in
set_option maxHeartbeats 1000000 in
theorem line_walk (s : ByteArray) (w : World) (hs : s.size ≤ 16777216) (B : Bool) (hB : Hid (Pl.lineHas s.data.toList = B)) :
    Calls Tryd.prog 12 #[.string s] w fun e w' => e = .returned (.bool B) ∧ w' = w := by
  go_enter Tryd.func12, Tryd.ntmps12
  go_wp2
  go_loop [3] (fun i => ∃ k : Nat, k ≤ s.size ∧ i = .int .i64 k ∧ Hid (Pl.lineHas (s.data.toList.drop k) = B)) (fun i => s.size - (intOf i).toNat)
  case atStart => exact ⟨0, Nat.zero_le _, rfl, by simpa using hB⟩
  case round =>
    obtain ⟨k, hk, rfl, HK⟩ := hrel
    clear hB
    by_cases hlt : k < s.size
    · have hkz : (k : Int) < (s.size : Int) := by omega
      have HD : Hid (s.data.toList.drop k = s[k] :: s.data.toList.drop (k + 1)) := drop_cons' s k hlt
      by_cases h32 : s[k].toNat = 32
      · have h32b : ((s[k].toNat : Int) == 32) = true := bq (n := 32) h32
        have HK' : Hid (Pl.lineHas (s.data.toList.drop (k + 1)) = B) := by
          show _ = _
          rw [← HK.out, HD.out, lineHas_yes _ (blank_of (Or.inl h32))]
        clear HK HD
        go_wp2
        go_round
        case rel => exact ⟨k + 1, by omega, by go_num, HK'⟩
        case measure => simp [intOf]; omega
      have h32b : ((s[k].toNat : Int) == 32) = false := bnq (n := 32) h32
      by_cases h9 : s[k].toNat = 9
      · have h9b : ((s[k].toNat : Int) == 9) = true := bq (n := 9) h9
        have HK' : Hid (Pl.lineHas (s.data.toList.drop (k + 1)) = B) := by
          show _ = _
          rw [← HK.out, HD.out, lineHas_yes _ (blank_of (Or.inr (Or.inl h9)))]
        clear HK HD
        go_wp2
        go_round
        case rel => exact ⟨k + 1, by omega, by go_num, HK'⟩
        case measure => simp [intOf]; omega
      have h9b : ((s[k].toNat : Int) == 9) = false := bnq (n := 9) h9
      by_cases h13 : s[k].toNat = 13
      · have h13b : ((s[k].toNat : Int) == 13) = true := bq (n := 13) h13
        have HK' : Hid (Pl.lineHas (s.data.toList.drop (k + 1)) = B) := by
          show _ = _
          rw [← HK.out, HD.out, lineHas_yes _ (blank_of (Or.inr (Or.inr h13)))]
        clear HK HD
        go_wp2
        go_round
        case rel => exact ⟨k + 1, by omega, by go_num, HK'⟩
        case measure => simp [intOf]; omega
      have h13b : ((s[k].toNat : Int) == 13) = false := bnq (n := 13) h13
      have HB : Hid ((!(s[k] == 10) && !(s[k] == 35)) = B) := by
        show _ = _
        rw [← HK.out, HD.out, lineHas_no _ (blank_not' h32 h9 h13)]
      clear HK HD
      by_cases h10 : s[k].toNat = 10
      · have h10b : ((s[k].toNat : Int) == 10) = true := bq (n := 10) h10
        have HR : Hid (B = false) := by show _ = _; rw [← HB.out, show s[k] = 10 from UInt8.toNat_inj.1 h10]; rfl
        clear HB
        go_wp2
        go_ret
        exact ⟨retB HR.out.symm, rfl⟩
      have h10b : ((s[k].toNat : Int) == 10) = false := bnq (n := 10) h10
      by_cases h35 : s[k].toNat = 35
      · have h35b : ((s[k].toNat : Int) == 35) = true := bq (n := 35) h35
        have HR : Hid (B = false) := by show _ = _; rw [← HB.out, show s[k] = 35 from UInt8.toNat_inj.1 h35]; rfl
        clear HB
        go_wp2
        go_ret
        exact ⟨retB HR.out.symm, rfl⟩
      have h35b : ((s[k].toNat : Int) == 35) = false := bnq (n := 35) h35
      have HR : Hid (B = true) := by
        show _ = _
        rw [← HB.out, show (s[k] == 10) = false from beq_eq_false_iff_ne.2 (fun e => h10 (by rw [e]; rfl)), show (s[k] == 35) = false from beq_eq_false_iff_ne.2 (fun e => h35 (by rw [e]; rfl))]; rfl
      clear HB
      go_wp2
      go_ret
      exact ⟨retB (by rw [bne, h10b, bne, h35b]; exact HR.out.symm), rfl⟩
    · have hkz : ¬ (k : Int) < (s.size : Int) := by omega
      have HR : Hid (B = false) := by
        show _ = _
        rw [← HK.out, show k = s.size by omega, List.drop_of_length_le (by rw [← Lib.size_eq]; exact Nat.le_refl _)]; rfl
      clear HK
      go_wp2
      go_ret
      exact ⟨retB HR.out.symm, rfl⟩
end Go.Proofs.Qxb6614551aDoor
