import Derived.Test.Qxb6614551aDoorPredsC
namespace Go.Proofs.Qxb6614551aDoor
open Go.RowKit

theorem dropWhile_twice (p : UInt8 → Bool) : ∀ l : List UInt8, (l.dropWhile p).dropWhile p = l.dropWhile p
  | [] => rfl
  | c :: l => by
    rw [List.dropWhile_cons]
    split
    · exact dropWhile_twice p l
    · rename_i h
      rw [List.dropWhile_cons, if_neg h]
theorem dropWhile_nil {p : UInt8 → Bool} : ∀ {l : List UInt8}, l.dropWhile p = [] → l.all p = true
  | [], _ => rfl
  | c :: l, h => by
    rw [List.dropWhile_cons] at h
    split at h
    · rename_i hc
      rw [List.all_cons, hc, dropWhile_nil h]; rfl
    · cases h
theorem dropWhile_all {p : UInt8 → Bool} : ∀ {l : List UInt8}, l.all p = true → l.dropWhile p = []
  | [], _ => rfl
  | c :: l, h => by
    rw [List.all_cons, Bool.and_eq_true] at h
    rw [List.dropWhile_cons, if_pos h.1]
    exact dropWhile_all h.2
theorem trimS_nil (l cs : List UInt8) : (Lib.trimS l cs).isEmpty = l.all (cs.contains ·) := by
  unfold Lib.trimS Lib.trimLeftS Lib.trimRightS
  generalize hp : (fun x => cs.contains x) = p
  cases ha : l.all p
  · rw [List.isEmpty_eq_false_iff]
    intro h
    have h1 := dropWhile_nil h
    rw [List.all_reverse] at h1
    have h2 := dropWhile_all h1
    rw [dropWhile_twice] at h2
    have h3 := dropWhile_nil h2
    rw [List.all_reverse, ha] at h3
    exact Bool.false_ne_true h3
  · rw [dropWhile_all (l := l.reverse) (by rw [List.all_reverse]; exact ha)]; rfl
def digits : List UInt8 := [48, 49, 50, 51, 52, 53, 54, 55, 56, 57]
theorem digits_has (b : UInt8) : digits.contains b = Pl.isDig b := by
  have hb := b.toNat_lt
  by_cases h : Pl.isDig b = true
  · rw [h]
    have h' : 48 ≤ b.toNat ∧ b.toNat ≤ 57 := by simpa [Pl.isDig] using h
    have h2 : b = UInt8.ofNat b.toNat := by simp
    have h3 : b.toNat = 48 ∨ b.toNat = 49 ∨ b.toNat = 50 ∨ b.toNat = 51 ∨ b.toNat = 52 ∨ b.toNat = 53 ∨ b.toNat = 54 ∨ b.toNat = 55 ∨ b.toNat = 56 ∨ b.toNat = 57 := by omega
    rcases h3 with h3 | h3 | h3 | h3 | h3 | h3 | h3 | h3 | h3 | h3 <;> · rw [h2, h3]; decide
  · rw [Bool.not_eq_true] at h
    rw [h]
    have h' : ¬ (48 ≤ b.toNat ∧ b.toNat ≤ 57) := by simpa [Pl.isDig] using h
    rw [← Bool.not_eq_true, List.contains_iff_mem]
    intro hm
    apply h'
    unfold digits at hm
    simp only [List.mem_cons, List.not_mem_nil, or_false] at hm
    rcases hm with rfl | rfl | rfl | rfl | rfl | rfl | rfl | rfl | rfl | rfl <;> decide
theorem trim_digits (l : List UInt8) : (Lib.trimS l digits).isEmpty = l.all Pl.isDig := by
  rw [trimS_nil]
  congr 1
  funext b
  exact digits_has b
theorem beq_nil (r : ByteArray) : (r.toList == []) = r.data.toList.isEmpty := by
  rw [Lib.toList_data]
  cases r.data.toList <;> rfl
theorem res_cases (l : List UInt8) : Lib.hasPrefix l [114] = false ∧ isResL l = false ∨ Lib.hasPrefix l [114] = true ∧ isResL l = (!(Lib.trimPrefix l [114]).isEmpty && (Lib.trimPrefix l [114]).all Pl.isDig) := by
  cases l with
  | nil => exact Or.inl ⟨rfl, rfl⟩
  | cons c t =>
    by_cases hc : c = 114
    · subst hc
      have h1 : Lib.hasPrefix (114 :: t) [114] = true := by simp [Lib.hasPrefix]
      refine Or.inr ⟨h1, ?_⟩
      unfold Lib.trimPrefix
      rw [if_pos h1]
      rfl
    · refine Or.inl ⟨?_, ?_⟩
      · simp only [Lib.hasPrefix, List.isPrefixOf]
        rw [show ((114 : UInt8) == c) = false from beq_eq_false_iff_ne.2 (fun e => hc e.symm)]; rfl
      · simp only [isResL]
        rw [show (c == 114) = false from beq_eq_false_iff_ne.2 hc]; rfl

set_option maxRecDepth 100000 in
set_option maxHeartbeats 1000000 in
theorem resname_walk (s : ByteArray) (w : World) (hs : s.size ≤ 16777216) (B : Bool) (hB : Hid (isRes s = B)) :
    Calls Tryd.prog 19 #[.string s] w fun e w' => e = .returned (.bool B) ∧ Below w.heap.size w w' := by
  have hcut := Any.strings_CutPrefix Tryd.lays103 s ⟨#[114]⟩ w
  change Calls Tryd.prog 25 _ _ _ at hcut
  have HC : Hid (Lib.hasPrefix s.data.toList [114] = false ∧ isRes s = false ∨ Lib.hasPrefix s.data.toList [114] = true ∧ isRes s = (!(Lib.trimPrefix s.data.toList [114]).isEmpty && (Lib.trimPrefix s.data.toList [114]).all Pl.isDig)) := res_cases s.data.toList
  obtain ⟨r, hr⟩ : ∃ r : ByteArray, (⟨(Lib.trimPrefix s.data.toList [114]).toArray⟩ : ByteArray) = r := ⟨_, rfl⟩
  obtain ⟨b, hb⟩ : ∃ b, Lib.hasPrefix s.data.toList [114] = b := ⟨_, rfl⟩
  have hcut' : Calls Tryd.prog 25 #[.string s, .string ⟨#[114]⟩] w fun e w' => e = .returned (.tuple #[.string r, .bool b]) ∧ w' = w := by rw [← hr, ← hb]; exact hcut
  have HL : Hid (r.data.toList = Lib.trimPrefix s.data.toList [114]) := by show _ = _; rw [← hr]
  have hrs : r.size ≤ 16777216 := by
    rw [Lib.size_eq, HL.out]
    unfold Lib.trimPrefix
    rw [Lib.size_eq] at hs
    split
    · rw [List.length_drop]; omega
    · exact hs
  have HC' : Hid (b = false ∧ B = false ∨ b = true ∧ B = (!r.data.toList.isEmpty && r.data.toList.all Pl.isDig)) := by
    have := HC.out
    rw [hb, hB.out, ← HL.out] at this
    exact this
  clear hcut HC hr hb HL hB
  have htrim : ∀ W, Calls Tryd.prog 26 #[.string r, .string ⟨#[48, 49, 50, 51, 52, 53, 54, 55, 56, 57]⟩] W fun e w' => e = .returned (.string ⟨(Lib.trimS r.data.toList digits).toArray⟩) ∧ Below W.heap.size W w' :=
    fun W => Any.strings_Trim_laid Tryd.lays160 (by kernel_rfl) r ⟨#[48, 49, 50, 51, 52, 53, 54, 55, 56, 57]⟩ W (by omega) (by decide) (ascii_of_all (by decide))
  obtain ⟨q, hq⟩ : ∃ q : ByteArray, (⟨(Lib.trimS r.data.toList digits).toArray⟩ : ByteArray) = q := ⟨_, rfl⟩
  rw [hq] at htrim
  have HQ : Hid (q.data.toList.isEmpty = r.data.toList.all Pl.isDig) := by
    show _ = _
    rw [← hq]
    exact trim_digits _
  clear hq
  go_enter Tryd.func19, Tryd.ntmps19
  cases b with
  | false =>
    have HB : Hid (B = false) := by
      rcases HC'.out with h | h
      · exact h.2
      · cases h.1
    clear HC' HQ
    go_wp2_with (go_at_call 25; refine hcut'.mono ?_; rintro e w' ⟨rfl, hw⟩; rw [hw])
    go_ret
    exact ⟨retB HB.out.symm, Below.refl _ _⟩
  | true =>
    have HB : Hid (B = (!r.data.toList.isEmpty && r.data.toList.all Pl.isDig)) := by
      rcases HC'.out with h | h
      · cases h.1
      · exact h.2
    clear HC'
    cases he : (r.toList == [])
    · cases hz : (q.toList == [])
      · have HB' : Hid (B = false) := by
          show _ = _
          rw [HB.out, ← HQ.out, ← beq_nil, ← beq_nil, hz, Bool.and_false]
        clear HB HQ
        go_wp2_with (first | (go_at_call 25; refine hcut'.mono ?_; rintro e w' ⟨rfl, hw⟩; rw [hw]) | (go_at_call 26; refine (htrim _).mono ?_; rintro e w' ⟨rfl, hB⟩))
        go_ret
        exact ⟨retB HB'.out.symm, hB⟩
      · have HB' : Hid (B = true) := by
          show _ = _
          rw [HB.out, ← HQ.out, ← beq_nil, ← beq_nil, hz, he]; rfl
        clear HB HQ
        go_wp2_with (first | (go_at_call 25; refine hcut'.mono ?_; rintro e w' ⟨rfl, hw⟩; rw [hw]) | (go_at_call 26; refine (htrim _).mono ?_; rintro e w' ⟨rfl, hB⟩))
        go_ret
        exact ⟨retB HB'.out.symm, hB⟩
    · have HB' : Hid (B = false) := by
        show _ = _
        rw [HB.out, ← beq_nil, he]; rfl
      clear HB HQ
      go_wp2_with (go_at_call 25; refine hcut'.mono ?_; rintro e w' ⟨rfl, hw⟩; rw [hw])
      go_ret
      exact ⟨retB HB'.out.symm, Below.refl _ _⟩
end Go.Proofs.Qxb6614551aDoor
