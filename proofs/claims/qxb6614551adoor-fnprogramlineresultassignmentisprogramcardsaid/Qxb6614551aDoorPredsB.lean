import Derived.Test.Qxb6614551aDoorPreds
import Derived.Test.Qxb6614551aDoorNextPre
namespace Go.Proofs.Qxb6614551aDoor
open Go.RowKit

theorem bq {c : UInt8} {n : Nat} (h : c.toNat = n) : ((c.toNat : Int) == (n : Int)) = true := by rw [beq_iff_eq]; omega
theorem bnq {c : UInt8} {n : Nat} (h : ¬ c.toNat = n) : ((c.toNat : Int) == (n : Int)) = false := by rw [beq_eq_false_iff_ne]; omega
theorem list_of_size (s : ByteArray) (h : 0 < s.size) : s.data.toList = s[0] :: s.data.toList.drop 1 := by
  have := drop_cons' s 0 h
  simpa using this
theorem nil_of_eq {s : ByteArray} (h : (s.toList == []) = true) : s.size = 0 := by
  have h1 : s.toList = [] := by simpa using h
  rw [Lib.toList_data] at h1
  rw [Lib.size_eq, h1]; rfl
theorem pos_of_ne {s : ByteArray} (h : (s.toList == []) = false) : 0 < s.size := by
  rcases Nat.eq_zero_or_pos s.size with h0 | h0
  · rw [Lib.toList_data, List.eq_nil_of_length_eq_zero (l := s.data.toList) (by rw [← Lib.size_eq]; exact h0)] at h
    simp at h
  · exact h0
theorem isIdent_false {s : ByteArray} (h : s.size = 0) : isIdent s = false := by
  unfold isIdent
  rw [List.eq_nil_of_length_eq_zero (by rw [← Lib.size_eq]; exact h : s.data.toList.length = 0)]
theorem isIdent_eq {s : ByteArray} (h : 0 < s.size) : isIdent s = (Pl.isLet s[0] && (s.data.toList.drop 1).all Pl.identC) := by
  unfold isIdent
  split
  · rename_i h0
    rw [Lib.size_eq, h0] at h
    simp at h
  · rename_i c t h0
    have := list_of_size s h
    rw [h0] at this
    injection this with h1 h2
    rw [h1, h0]
    rfl
def idAt (s : ByteArray) (k : Nat) : Bool := ((s.data.toList.drop 1).take (k - 1)).all Pl.identC
theorem idAt_one (s : ByteArray) : idAt s 1 = true := rfl
theorem idAt_succ (s : ByteArray) (k : Nat) (h1 : 1 ≤ k) (h : k < s.size) : idAt s (k + 1) = (idAt s k && Pl.identC s[k]) := by
  unfold idAt
  have hl : k - 1 < (s.data.toList.drop 1).length := by rw [List.length_drop, ← Lib.size_eq]; omega
  rw [show k + 1 - 1 = (k - 1) + 1 by omega, List.take_succ_eq_append_getElem hl, List.all_append, List.all_cons, List.all_nil, Bool.and_true]
  congr 2
  rw [List.getElem_drop]
  have : 1 + (k - 1) = k := by omega
  simp only [this]
  rfl
theorem idAt_end (s : ByteArray) : idAt s s.size = (s.data.toList.drop 1).all Pl.identC := by
  unfold idAt
  rw [List.take_of_length_le (by rw [List.length_drop, ← Lib.size_eq]; omega)]
theorem idAt_stop (s : ByteArray) (k : Nat) (h1 : 1 ≤ k) (h : k < s.size) (hk : Pl.identC s[k] = false) : (s.data.toList.drop 1).all Pl.identC = false := by
  have hm : s[k] ∈ s.data.toList.drop 1 := by
    rw [List.mem_iff_getElem]
    refine ⟨k - 1, by rw [List.length_drop, ← Lib.size_eq]; omega, ?_⟩
    rw [List.getElem_drop]
    have : 1 + (k - 1) = k := by omega
    simp only [this]
    rfl
  exact List.all_eq_false.2 ⟨s[k], hm, by rw [hk]; exact Bool.false_ne_true⟩

theorem at_eq {s : ByteArray} {k : Nat} {c : UInt8} (h : k < s.size) (hcd : s.data.toList.drop k = c :: s.data.toList.drop (k + 1)) : s[k] = c := by
  have := drop_cons' s k h
  rw [hcd] at this
  injection this with h1 _
  exact h1.symm

set_option maxRecDepth 100000 in
set_option maxHeartbeats 8000000 in
theorem ident_walk (s : ByteArray) (w : World) (hs : s.size ≤ 16777216) :
    Calls Tryd.prog 7 #[.string s] w fun e w' => e = .returned (.bool (isIdent s)) ∧ w' = w := by
  obtain ⟨I, hI⟩ : ∃ I, isIdent s = I := ⟨_, rfl⟩
  rw [hI]
  have HI : Hid (isIdent s = I) := hI
  clear hI
  go_enter Tryd.func7, Tryd.ntmps7
  cases he : (s.toList == [])
  · have h0 := pos_of_ne he
    obtain ⟨c0, hcd0, hix0⟩ := index_run s 0 h0
    have hix0' : ∀ W, (Instr.index 9 (.string s) (.int .i64 0)).run Tryd.prog W = .ok (.int .u8 (c0.toNat : Int)) W := hix0
    have HE : Hid (I = (Pl.isLet c0 && (s.data.toList.drop 1).all Pl.identC)) := by
      show _ = _
      rw [← HI.out, isIdent_eq h0, at_eq h0 hcd0]
    clear HI hcd0 hix0
    cases hl : Pl.isLet c0
    · have HR : Hid (I = false) := by show _ = _; rw [HE.out, hl]; rfl
      clear HE
      go_wp2_with (go_at_call 14; refine (letterB_c c0 false hl _).mono ?_; rintro e w' ⟨rfl, hw⟩; rw [hw])
      go_ret
      exact ⟨retB HR.out.symm, rfl⟩
    · go_wp2_with (go_at_call 14; refine (letterB_c c0 true hl _).mono ?_; rintro e w' ⟨rfl, hw⟩; rw [hw])
      go_loop [3] (fun i => ∃ k : Nat, 1 ≤ k ∧ k ≤ s.size ∧ i = .int .i64 k ∧ Hid (idAt s k = true)) (fun i => s.size - (intOf i).toNat)
      case atStart => exact ⟨1, Nat.le_refl _, by omega, rfl, idAt_one s⟩
      case round =>
        obtain ⟨k, hk1, hk, rfl, HK⟩ := hrel
        clear hix0'
        by_cases hlt : k < s.size
        · have hkz : (k : Int) < (s.size : Int) := by omega
          obtain ⟨c, hcd, hix⟩ := index_run s k hlt
          have HS : Hid (idAt s (k + 1) = (idAt s k && Pl.identC c)) := by show _ = _; rw [idAt_succ s k hk1 hlt, at_eq hlt hcd]
          have HX : Hid (Pl.identC c = false → I = false) := fun h => by
            have h' : Pl.identC s[k] = false := by rw [at_eq hlt hcd]; exact h
            rw [HE.out, idAt_stop s k hk1 hlt h', Bool.and_false]
          clear hcd HE
          cases hd : Pl.isLet c
          · cases hg : Pl.isDig c
            · by_cases h36 : c.toNat = 36
              · have h36b : ((c.toNat : Int) == 36) = true := bq (n := 36) h36
                have HK' : Hid (idAt s (k + 1) = true) := by
                  show _ = _
                  rw [HS.out, HK.out]
                  unfold Pl.identC
                  rw [show c = 36 from UInt8.toNat_inj.1 h36]; rfl
                clear HK HS HX h36
                go_wp2_with (first | (go_at_call 14; refine (letterB_c c false hd _).mono ?_; rintro e w' ⟨rfl, hw⟩; rw [hw]) | (go_at_call 13; refine (digitB_c c false hg _).mono ?_; rintro e w' ⟨rfl, hw⟩; rw [hw]))
                go_round
                case rel => exact ⟨k + 1, by omega, by omega, by go_num, HK'⟩
                case measure => simp [intOf]; omega
              · have h36b : ((c.toNat : Int) == 36) = false := bnq (n := 36) h36
                have HR : Hid (I = false) := HX.out (by
                  unfold Pl.identC
                  rw [hd, hg, show (c == 36) = false from beq_eq_false_iff_ne.2 (fun e => h36 (by rw [e]; rfl))]; rfl)
                clear HK HS HX
                go_wp2_with (first | (go_at_call 14; refine (letterB_c c false hd _).mono ?_; rintro e w' ⟨rfl, hw⟩; rw [hw]) | (go_at_call 13; refine (digitB_c c false hg _).mono ?_; rintro e w' ⟨rfl, hw⟩; rw [hw]))
                go_ret
                exact ⟨retB HR.out.symm, rfl⟩
            · have HK' : Hid (idAt s (k + 1) = true) := by
                show _ = _
                rw [HS.out, HK.out]
                unfold Pl.identC
                rw [hg, Bool.or_true]; rfl
              clear HK HS HX
              go_wp2_with (first | (go_at_call 14; refine (letterB_c c false hd _).mono ?_; rintro e w' ⟨rfl, hw⟩; rw [hw]) | (go_at_call 13; refine (digitB_c c true hg _).mono ?_; rintro e w' ⟨rfl, hw⟩; rw [hw]))
              go_round
              case rel => exact ⟨k + 1, by omega, by omega, by go_num, HK'⟩
              case measure => simp [intOf]; omega
          · have HK' : Hid (idAt s (k + 1) = true) := by
              show _ = _
              rw [HS.out, HK.out]
              unfold Pl.identC
              rw [hd]; rfl
            clear HK HS HX
            go_wp2_with (go_at_call 14; refine (letterB_c c true hd _).mono ?_; rintro e w' ⟨rfl, hw⟩; rw [hw])
            go_round
            case rel => exact ⟨k + 1, by omega, by omega, by go_num, HK'⟩
            case measure => simp [intOf]; omega
        · have hkz : ¬ (k : Int) < (s.size : Int) := by omega
          have HR : Hid (I = true) := by
            show _ = _
            have := HK.out
            rw [show k = s.size by omega, idAt_end s] at this
            rw [HE.out, hl, this]; rfl
          clear HK HE
          go_wp2
          go_ret
          exact ⟨retB HR.out.symm, rfl⟩
  · have HR : Hid (I = false) := by show _ = _; rw [← HI.out]; exact isIdent_false (nil_of_eq he)
    clear HI
    go_wp2
    go_ret
    exact ⟨retB HR.out.symm, rfl⟩
end Go.Proofs.Qxb6614551aDoor
