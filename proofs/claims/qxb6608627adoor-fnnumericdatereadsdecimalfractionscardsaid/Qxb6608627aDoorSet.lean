import Derived.Test.Qxb6608627aDoorRead
import Derived.Test.Qxb6608627aDoorShift
namespace Go.Proofs.Qxb6608627aDoor
open Go.RowKit

set_option maxRecDepth 100000 in
set_option maxHeartbeats 16000000 in
theorem set_walk (s : ByteArray) (a b : List UInt8) (hT : Txt s a b) (bd : Nat) (w : World) (h : At w bd d00) (DF : Dec) (hDF : Hid (drun d00 s.data.toList = DF)) :
    Calls Tryd.prog 30 #[.pointer (some ⟨bd, 0, none⟩), .string s] w fun e w' => e = .returned (.bool true) ∧ At w' bd DF ∧ Kp bd w w' := by
  have hsz := hT.sz
  have HREM0 : Hid (Rem false s.data.toList) := Or.inr ⟨rfl, a, b, hT.eq, hT.da, hT.db⟩
  have HF : Hid (∃ c0 l0, s.data.toList = c0 :: l0 ∧ dig c0) := by
    obtain ⟨x, a', ha'⟩ : ∃ x a', a = x :: a' := by
      cases a with
      | nil => exact absurd rfl hT.ne
      | cons x a' => exact ⟨x, a', rfl⟩
    exact ⟨x, a' ++ 46 :: b, by rw [hT.eq, ha']; rfl, hT.da x (by rw [ha']; simp)⟩
  have hlen : s.size = a.length + (b.length + 1) := by rw [Lib.size_eq, hT.eq, List.length_append, List.length_cons]
  have ha1 : 1 ≤ a.length := List.length_pos_iff.2 hT.ne
  have hs0 : 0 < s.size := by omega
  have hs0b : decide ((s.size : Int) ≤ 0) = false := decide_eq_false (by omega)
  have hsE : ¬ s = ByteArray.empty := fun h => by rw [h] at hs0; exact absurd hs0 (by decide)
  have hsEb : decide (s = ByteArray.empty) = false := decide_eq_false hsE
  obtain ⟨c0, hcd0, hix0⟩ := index_run s 0 hs0
  have hix0' : ∀ W, (Instr.index 9 (.string s) (.int .i64 0)).run Tryd.prog W = .ok (.int .u8 (c0.toNat : Int)) W := hix0
  have hc0 : 48 ≤ c0.toNat ∧ c0.toNat ≤ 57 := by
    obtain ⟨x, l0, e0, hd0⟩ := HF.out
    rw [List.drop_zero, e0] at hcd0
    injection hcd0 with e1 _
    rw [← e1]; exact hd0
  have h43 : ((c0.toNat : Int) == 43) = false := by rw [beq_eq_false_iff_ne]; omega
  have h45 : ((c0.toNat : Int) == 45) = false := by rw [beq_eq_false_iff_ne]; omega
  have f2 := DecAt.fr h 802
  have f3 := DecAt.fr h 803
  have g2 := DecAt.cneg h
  have g3 := DecAt.ctr h
  have h0 : DecAt w bd (fun _ => 0) 0 0 false := h
  clear hcd0 hix0 hT hlen ha1 h
  go_enter Tryd.func30, Tryd.ntmps30
  go_wp2_with fail
  generalize hW1 : World.setCell _ _ _ = w1
  have hA1 : DecAt w1 bd (fun _ => 0) 0 0 false := by rw [← hW1]; exact (h0.setNeg).setTr false
  have hk1 : Kp bd w w1 := by rw [← hW1]; exact ((Kp.refl bd w).setCell rfl _).setCell rfl _
  clear hW1 h0 f2 f3 g2 g3 h43 h45 hix0'
  go_loopg [5, 6, 7] (s.size + 1) (fun gf v5 v6 v7 wr => ∃ (k : Nat) (d : Nat → Nat) (nd : Nat) (dp : Int) (tr dot sd : Bool), k ≤ s.size ∧ v5 = .int .i64 (k : Int) ∧ v6 = .bool dot ∧ v7 = .bool sd ∧ Hid (drun ⟨d, nd, dp, tr⟩ (s.data.toList.drop k) = DF) ∧ Hid (Rem dot (s.data.toList.drop k)) ∧ Hid (sd = true ∨ k = 0) ∧ DecAt wr bd d (nd : Int) dp tr ∧ Kp bd w wr ∧ nd ≤ 800 ∧ -(k : Int) ≤ dp ∧ dp ≤ 800 ∧ s.size < gf + k)
  case atStart => exact ⟨0, fun _ => 0, 0, 0, false, false, false, Nat.zero_le _, rfl, rfl, rfl, (by show _ = _; rw [List.drop_zero]; exact hDF.out), (by rw [List.drop_zero]; exact HREM0.out), Or.inr rfl, hA1, hk1, by decide, by decide, by decide, by omega⟩
  case round =>
    clear hA1 hk1 hDF HREM0
    obtain ⟨k, d, nd, dp, tr, dot, sd, hk, rfl, rfl, rfl, HRUN, HREM, HSD, hA, hkp, hnd8, hdl, hdh, hg⟩ := hrel
    have hcn := hA.cnd
    have hcp := hA.cdp
    have hct := hA.ctr
    have hfn := hA.fr 800
    have hfp := hA.fr 801
    have hft := hA.fr 803
    by_cases hlt : k < s.size
    · have hkz : (k : Int) < (s.size : Int) := by omega
      obtain ⟨c, hcd, hix⟩ := index_run s k hlt
      have HREM1 := HREM.out
      rw [hcd] at HREM1
      have HRUN1 := HRUN.out
      rw [hcd] at HRUN1
      have h95 : ((c.toNat : Int) == 95) = false := by
        rw [beq_eq_false_iff_ne]
        rcases rem_step HREM1 with ⟨h, _⟩ | ⟨h, _⟩
        · omega
        · unfold dig at h; omega
      rcases rem_step HREM1 with ⟨hc, hdot, HR'⟩ | ⟨hc, HR'⟩
      · subst hdot
        have h46 : ((c.toNat : Int) == 46) = true := by rw [beq_iff_eq]; omega
        have HRUN' : Hid (drun ⟨d, nd, (nd : Int), tr⟩ (s.data.toList.drop (k + 1)) = DF) := by
          rw [← HRUN1]
          show _ = drun (dstep _ c) _
          unfold dstep
          rw [if_pos hc]
        have HREM' : Hid (Rem true (s.data.toList.drop (k + 1))) := HR'
        have HSD' : Hid (sd = true ∨ k + 1 = 0) := by
          rcases HSD.out with h | h
          · exact Or.inl h
          · exfalso
            obtain ⟨c0, l0, e0, hd0⟩ := HF.out
            rw [h, List.drop_zero, e0] at hcd
            injection hcd with e1 _
            rw [e1] at hd0
            unfold dig at hd0
            omega
        clear HRUN HREM HRUN1 HREM1 hcd hc HR' HSD
        go_wp2_with fail
        go_roundg (gk - 1)
        case measure => omega
        case rel => exact ⟨k + 1, d, nd, (nd : Int), tr, true, sd, by omega, by go_num, rfl, rfl, HRUN', HREM', HSD', hA.toDp _ _ rfl, hkp.setCell rfl _, by omega, by omega, by omega, by omega⟩
      · have hc' : 48 ≤ c.toNat ∧ c.toNat ≤ 57 := hc
        have h46 : ((c.toNat : Int) == 46) = false := by rw [beq_eq_false_iff_ne]; omega
        have h48a : (48 : Int) ≤ (c.toNat : Int) := by omega
        have h57a : (c.toNat : Int) ≤ 57 := by omega
        have HREM' : Hid (Rem dot (s.data.toList.drop (k + 1))) := HR'
        have hn46 := dig_ne hc
        by_cases h48 : c.toNat = 48
        · have h48b : ((c.toNat : Int) == 48) = true := by rw [beq_iff_eq]; omega
          by_cases hnd0 : nd = 0
          · subst hnd0
            have HRUN' : Hid (drun ⟨d, 0, dp - 1, tr⟩ (s.data.toList.drop (k + 1)) = DF) := by
              rw [← HRUN1]
              show _ = drun (dstep _ c) _
              unfold dstep
              rw [if_neg hn46, if_pos ⟨h48, rfl⟩]
            skip
            clear HRUN HREM HRUN1 HREM1 hcd hc HR' HSD
            go_wp2_with fail
            go_roundg (gk - 1)
            case measure => omega
            case rel => exact ⟨k + 1, d, _, _, _, dot, true, by omega, by go_num, rfl, rfl, HRUN', HREM', Or.inl rfl, hA.toDp _ _ (by go_num), hkp.setCell rfl _, by omega, by omega, by omega, by omega⟩
          · have hndb : ((nd : Int) == 0) = false := by rw [beq_eq_false_iff_ne]; omega
            by_cases h8 : nd < 800
            · have h8z : (nd : Int) < 800 := by omega
              have HRUN' : Hid (drun ⟨put d nd c.toNat, nd + 1, dp, tr⟩ (s.data.toList.drop (k + 1)) = DF) := by
                rw [← HRUN1]
                show _ = drun (dstep _ c) _
                unfold dstep
                rw [if_neg hn46, if_neg (fun h => hnd0 h.2), if_pos h8]
              have hcx := hA.cd h8
              have hfx := hA.fr nd
              clear HRUN HREM HRUN1 HREM1 hcd hc HR' HSD
              go_wp2_with fail
              go_region
              go_wp2_with fail
              go_roundg (gk - 1)
              case measure => omega
              case rel => exact ⟨k + 1, put d nd c.toNat, _, _, _, dot, true, by omega, by go_num, rfl, rfl, HRUN', HREM', Or.inl rfl, DecAt.drewN ((hA.setD h8 c.toNat _ (by omega)).toNd _ _ (by go_num)) 1, Kp.drewN ((hkp.setCell rfl _).setCell rfl _) 1, by omega, by omega, by omega, by omega⟩
            · have h8b : decide ((nd : Int) < 800) = false := decide_eq_false (by omega)
              have HRUN' : Hid (drun ⟨d, nd, dp, tr⟩ (s.data.toList.drop (k + 1)) = DF) := by
                rw [← HRUN1]
                show _ = drun (dstep _ c) _
                unfold dstep
                rw [if_neg hn46, if_neg (fun h => hnd0 h.2), if_neg h8, decide_eq_true h48, Bool.not_true, Bool.or_false]
              skip
              clear HRUN HREM HRUN1 HREM1 hcd hc HR' HSD
              go_wp2_with fail
              go_roundg (gk - 1)
              case measure => omega
              case rel => exact ⟨k + 1, d, _, _, _, dot, true, by omega, by go_num, rfl, rfl, HRUN', HREM', Or.inl rfl, hA, hkp, by omega, by omega, by omega, by omega⟩
        · have h48b : ((c.toNat : Int) == 48) = false := by rw [beq_eq_false_iff_ne]; omega
          by_cases h8 : nd < 800
          · have h8z : (nd : Int) < 800 := by omega
            have HRUN' : Hid (drun ⟨put d nd c.toNat, nd + 1, dp, tr⟩ (s.data.toList.drop (k + 1)) = DF) := by
              rw [← HRUN1]
              show _ = drun (dstep _ c) _
              unfold dstep
              rw [if_neg hn46, if_neg (fun h => h48 h.1), if_pos h8]
            have hcx := hA.cd h8
            have hfx := hA.fr nd
            clear HRUN HREM HRUN1 HREM1 hcd hc HR' HSD
            go_wp2_with fail
            go_region
            go_wp2_with fail
            go_roundg (gk - 1)
            case measure => omega
            case rel => exact ⟨k + 1, put d nd c.toNat, _, _, _, dot, true, by omega, by go_num, rfl, rfl, HRUN', HREM', Or.inl rfl, DecAt.drewN ((hA.setD h8 c.toNat _ (by omega)).toNd _ _ (by go_num)) 1, Kp.drewN ((hkp.setCell rfl _).setCell rfl _) 1, by omega, by omega, by omega, by omega⟩
          · have h8b : decide ((nd : Int) < 800) = false := decide_eq_false (by omega)
            have HRUN' : Hid (drun ⟨d, nd, dp, true⟩ (s.data.toList.drop (k + 1)) = DF) := by
              rw [← HRUN1]
              show _ = drun (dstep _ c) _
              unfold dstep
              rw [if_neg hn46, if_neg (fun h => h48 h.1), if_neg h8, decide_eq_false h48, Bool.not_false, Bool.or_true]
            skip
            clear HRUN HREM HRUN1 HREM1 hcd hc HR' HSD
            go_wp2_with fail
            go_roundg (gk - 1)
            case measure => omega
            case rel => exact ⟨k + 1, d, _, _, _, dot, true, by omega, by go_num, rfl, rfl, HRUN', HREM', Or.inl rfl, hA.setTr true, hkp.setCell rfl _, by omega, by omega, by omega, by omega⟩
    · have hkE : k = s.size := by omega
      have hdot : dot = true := by
        have := HREM.out
        rw [List.drop_of_length_le (by rw [← Lib.size_eq]; omega)] at this
        exact rem_end this
      have hsd : sd = true := by
        rcases HSD.out with h | h
        · exact h
        · exfalso; omega
      have HFIN : Hid ((⟨d, nd, dp, tr⟩ : Dec) = DF) := by
        have := HRUN.out
        rw [List.drop_of_length_le (by rw [← Lib.size_eq]; omega)] at this
        exact this
      subst hdot hsd hkE
      have hlb : decide ((s.size : Int) < (s.size : Int)) = false := decide_eq_false (by omega)
      have hAF : At wr bd DF := by rw [← HFIN.out]; exact hA
      clear HRUN HREM HSD hg hlt
      go_wp2_with fail
      go_ret
      exact ⟨rfl, hAF, hkp⟩
end Go.Proofs.Qxb6608627aDoor
