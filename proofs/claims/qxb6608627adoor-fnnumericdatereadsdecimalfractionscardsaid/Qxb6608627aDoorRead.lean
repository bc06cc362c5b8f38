import Derived.Test.Qxb6608627aDoorNumB
import Derived.Test.Qxb6608627aDoorRight
import Derived.OwnWalk
namespace Go.Proofs.Qxb6608627aDoor
open Go.RowKit

theorem or32 (n : Nat) (hn : n = 46 ∨ (48 ≤ n ∧ n ≤ 57)) : bits .or .u8 (n : Int) 32 = (n : Int) := by
  have : n = 46 ∨ n = 48 ∨ n = 49 ∨ n = 50 ∨ n = 51 ∨ n = 52 ∨ n = 53 ∨ n = 54 ∨ n = 55 ∨ n = 56 ∨ n = 57 := by omega
  rcases this with rfl | rfl | rfl | rfl | rfl | rfl | rfl | rfl | rfl | rfl | rfl <;> decide
set_option maxRecDepth 100000 in
set_option maxHeartbeats 1000000 in
theorem lower_walk (n : Nat) (hn : n = 46 ∨ (48 ≤ n ∧ n ≤ 57)) (w : World) : Calls Tryd.prog 40 #[.int .u8 (n : Int)] w fun e w' => e = .returned (.int .u8 (n : Int)) ∧ w' = w := by
  have h := or32 n hn
  go_enter Tryd.func40, Tryd.ntmps40
  go_wp2
  go_ret
  exact ⟨rfl, rfl⟩

/-- a text of digits with one point in it -/
structure Txt (s : ByteArray) (a b : List UInt8) : Prop where
  eq : s.data.toList = a ++ 46 :: b
  da : ∀ c ∈ a, dig c
  db : ∀ c ∈ b, dig c
  ne : a ≠ []
  sz : s.size ≤ 4194304
/-- what is left to read: digits, and the point if it has not been met -/
def Rem (dot : Bool) (l : List UInt8) : Prop := (dot = true ∧ ∀ c ∈ l, dig c) ∨ (dot = false ∧ ∃ a b, l = a ++ 46 :: b ∧ (∀ c ∈ a, dig c) ∧ ∀ c ∈ b, dig c)
theorem rem_step {dot : Bool} {c : UInt8} {l : List UInt8} (h : Rem dot (c :: l)) : (c.toNat = 46 ∧ dot = false ∧ Rem true l) ∨ (dig c ∧ Rem dot l) := by
  rcases h with ⟨h1, h2⟩ | ⟨h1, a, b, h2, h3, h4⟩
  · exact Or.inr ⟨h2 c (by simp), Or.inl ⟨h1, fun x hx => h2 x (by simp [hx])⟩⟩
  · cases a with
    | nil =>
      injection h2 with e1 e2
      exact Or.inl ⟨by rw [e1]; rfl, h1, Or.inl ⟨rfl, by rw [e2]; exact h4⟩⟩
    | cons x a =>
      injection h2 with e1 e2
      exact Or.inr ⟨by rw [e1]; exact h3 x (by simp), Or.inr ⟨h1, a, b, e2, fun y hy => h3 y (by simp [hy]), h4⟩⟩
theorem rem_end {dot : Bool} (h : Rem dot []) : dot = true := by
  rcases h with ⟨h1, _⟩ | ⟨_, a, b, h2, _⟩
  · exact h1
  · cases a <;> cases h2
theorem ret7 {m : Nat} {x y : Int} {tr tr' : Bool} {n : Int} (h1 : x = y) (h2 : tr = tr') : Ending.returned (.tuple #[.int .u64 (m : Int), .int .i64 x, .bool false, .bool tr, .bool false, .int .i64 n, .bool true]) = .returned (.tuple #[.int .u64 (m : Int), .int .i64 y, .bool false, .bool tr', .bool false, .int .i64 n, .bool true]) := by rw [h1, h2]

set_option maxRecDepth 100000 in
set_option maxHeartbeats 16000000 in
theorem read_two (s : ByteArray) (a b : List UInt8) (hT : Txt s a b) (w : World) (σ : RF) (hσ : Hid (rf0.run s.data.toList = σ)) (P : Int) (hP : Hid (P = if σ.mant = 0 then 0 else σ.dp - (σ.ndM : Int))) (h2 : s.size = 2) :
    Calls Tryd.prog 24 #[.string s] w fun e w' => e = .returned (.tuple #[.int .u64 (σ.mant : Int), .int .i64 P, .bool false, .bool σ.tr, .bool false, .int .i64 (s.size : Int), .bool true]) ∧ w' = w := by
  have hsz := hT.sz
  have HREM0 : Hid (Rem false s.data.toList) := Or.inr ⟨rfl, a, b, hT.eq, hT.da, hT.db⟩
  have HF : Hid (∃ c0 l0, s.data.toList = c0 :: l0 ∧ dig c0) := by
    obtain ⟨x, a', ha'⟩ : ∃ x a', a = x :: a' := by
      cases a with
      | nil => exact absurd rfl hT.ne
      | cons x a' => exact ⟨x, a', rfl⟩
    exact ⟨x, a' ++ 46 :: b, by rw [hT.eq, ha']; rfl, hT.da x (by rw [ha']; simp)⟩
  have hlen : s.size = a.length + (b.length + 1) := by rw [Lib.size_eq, hT.eq, List.length_append, List.length_cons]
  have ha1 : 1 ≤ a.length := List.length_pos_iff.2 hT.ne
  have hs0 : 0 < s.size := by omega
  have hs0z : ¬ (s.size : Int) ≤ 0 := by omega
  have hs0b : decide ((s.size : Int) ≤ 0) = false := decide_eq_false hs0z
  have hsE : ¬ s = ByteArray.empty := fun h => by rw [h] at hs0; exact absurd hs0 (by decide)
  have hsEb : decide (s = ByteArray.empty) = false := decide_eq_false hsE
  obtain ⟨c0, hcd0, hix0⟩ := index_run s 0 hs0
  have hix0' : ∀ W, (Instr.index 9 (.string s) (.int .i64 0)).run Tryd.prog W = .ok (.int .u8 (c0.toNat : Int)) W := hix0
  have hc0 : 48 ≤ c0.toNat ∧ c0.toNat ≤ 57 := by
    obtain ⟨x, l0, e0, hd0⟩ := HF.out
    rw [List.drop_zero, e0] at hcd0
    injection hcd0 with e1 _
    rw [← e1]; exact hd0
  have h43 : ((c0.toNat : Int) == 43) = false := by rw [beq_eq_false_iff_ne]; omega
  have h45 : ((c0.toNat : Int) == 45) = false := by rw [beq_eq_false_iff_ne]; omega
  clear hcd0 hix0
  have h2b : decide ((2 : Int) < (s.size : Int)) = false := decide_eq_false (by omega)
  clear h2
  clear hT hlen ha1
  go_enter Tryd.func24, Tryd.ntmps24
  go_wp2_with fail
  go_step3
  go_wp2_with fail
  go_step3
  go_wp2_with fail
  go_loopg [2, 5, 7, 9, 13, 14, 15, 16, 17] (s.size + 1) (fun gf v2 v5 v7 v9 v13 v14 v15 v16 v17 wr => ∃ (k m nd nM : Nat) (dp : Int) (tr dot sd : Bool), k ≤ s.size ∧ v2 = .int .u64 (m : Int) ∧ v5 = .bool tr ∧ v7 = .int .i64 (k : Int) ∧ v9 = .bool false ∧ v13 = .bool dot ∧ v14 = .bool sd ∧ v15 = .int .i64 (nd : Int) ∧ v16 = .int .i64 (nM : Int) ∧ v17 = .int .i64 dp ∧ Hid ((⟨m, nd, nM, dp, tr, dot, sd⟩ : RF).run (s.data.toList.drop k) = σ) ∧ Hid (RFok ⟨m, nd, nM, dp, tr, dot, sd⟩ k) ∧ Hid (Rem dot (s.data.toList.drop k)) ∧ Hid (sd = true ∨ k = 0) ∧ Hid (wr = w) ∧ s.size < gf + k)
  case atStart => exact ⟨0, 0, 0, 0, 0, false, false, false, Nat.zero_le _, rfl, rfl, rfl, rfl, rfl, rfl, rfl, rfl, rfl, (by show _ = _; rw [List.drop_zero]; exact hσ.out), rfok0, (by rw [List.drop_zero]; exact HREM0.out), Or.inr rfl, rfl, by omega⟩
  case round =>
    obtain ⟨k, m, nd, nM, dp, tr, dot, sd, hk, rfl, rfl, rfl, rfl, rfl, rfl, rfl, rfl, rfl, HRUN, HOK, HREM, HSD, HW, hg⟩ := hrel
    clear hσ HREM0
    have hkb : k ≤ 4194304 := by omega
    have hm19 : nM ≤ 19 := HOK.out.m19
    have hndk : nd ≤ k := HOK.out.ndk
    have hdl : -(k : Int) ≤ dp := HOK.out.dplo
    have hdh : dp ≤ (nd : Int) := HOK.out.dphi
    by_cases hlt : k < s.size
    · have hkz : (k : Int) < (s.size : Int) := by omega
      obtain ⟨c, hcd, hix⟩ := index_run s k hlt
      have HREM1 := HREM.out
      rw [hcd] at HREM1
      have HRUN1 := HRUN.out
      rw [hcd] at HRUN1
      have h95 : ((c.toNat : Int) == 95) = false := by
        rw [beq_eq_false_iff_ne]
        rcases rem_step HREM1 with ⟨h, _⟩ | ⟨h, _⟩
        · omega
        · unfold dig at h; omega
      rcases rem_step HREM1 with ⟨hc, hdot, HR'⟩ | ⟨hc, HR'⟩
      · subst hdot
        have h46 : ((c.toNat : Int) == 46) = true := by rw [beq_iff_eq]; omega
        have HRUN' : Hid ((⟨m, nd, nM, (nd : Int), tr, true, sd⟩ : RF).run (s.data.toList.drop (k + 1)) = σ) := by
          rw [← HRUN1]
          show _ = RF.run (RF.step _ c) _
          unfold RF.step
          rw [if_pos hc]
        have HOK' : Hid (RFok ⟨m, nd, nM, (nd : Int), tr, true, sd⟩ (k + 1)) := by
          have := rfok_step HOK.out c (Or.inr hc)
          unfold RF.step at this
          rw [if_pos hc] at this
          exact this
        have HREM' : Hid (Rem true (s.data.toList.drop (k + 1))) := HR'
        have HSD' : Hid (sd = true ∨ k + 1 = 0) := by
          rcases HSD.out with h | h
          · exact Or.inl h
          · exfalso
            obtain ⟨c0, l0, e0, hd0⟩ := HF.out
            rw [h, List.drop_zero, e0] at hcd
            injection hcd with e1 _
            rw [e1] at hd0
            unfold dig at hd0
            omega
        clear HRUN HOK HREM HRUN1 HREM1 hcd hc HR' HSD
        go_wp2_with fail
        go_roundg (gk - 1)
        case measure => omega
        case rel => exact ⟨k + 1, m, nd, nM, (nd : Int), tr, true, sd, by omega, rfl, rfl, by go_num, rfl, rfl, rfl, rfl, rfl, rfl, HRUN', HOK', HREM', HSD', HW, by omega⟩
      · have hc' : 48 ≤ c.toNat ∧ c.toNat ≤ 57 := hc
        have h46 : ((c.toNat : Int) == 46) = false := by rw [beq_eq_false_iff_ne]; omega
        have h48a : (48 : Int) ≤ (c.toNat : Int) := by omega
        have h57a : (c.toNat : Int) ≤ 57 := by omega
        have HREM' : Hid (Rem dot (s.data.toList.drop (k + 1))) := HR'
        have hn46 := dig_ne hc
        have hmb : nM < 19 → m < 1000000000000000000 := fun h => by
          have h1 : m < 10 ^ nM := HOK.out.lt
          have h2 : 10 ^ nM ≤ 10 ^ 18 := Nat.pow_le_pow_right (by decide) (by omega)
          have h3 : (10 : Nat) ^ 18 = 1000000000000000000 := by decide
          omega
        by_cases h48 : c.toNat = 48
        · have h48b : ((c.toNat : Int) == 48) = true := by rw [beq_iff_eq]; omega
          by_cases hnd0 : nd = 0
          · have hndb : ((nd : Int) == 0) = true := by rw [beq_iff_eq]; omega
            have HRUN' : Hid ((⟨m, nd, nM, dp - 1, tr, dot, true⟩ : RF).run (s.data.toList.drop (k + 1)) = σ) := by
              rw [← HRUN1]
              show _ = RF.run (RF.step _ c) _
              unfold RF.step
              rw [if_neg hn46, if_pos ⟨h48, hnd0⟩]
            have HOK' : Hid (RFok ⟨m, nd, nM, dp - 1, tr, dot, true⟩ (k + 1)) := by
              have := rfok_step HOK.out c (Or.inl hc)
              unfold RF.step at this
              rw [if_neg hn46, if_pos ⟨h48, hnd0⟩] at this
              exact this
            skip
            clear HRUN HOK HREM HRUN1 HREM1 hcd hc HR' HSD hmb
            go_wp2_with fail
            go_roundg (gk - 1)
            case measure => omega
            case rel => exact ⟨k + 1, _, _, _, _, _, dot, true, by omega, rfl, rfl, by go_num, rfl, rfl, rfl, by go_num, by go_num, by go_num, HRUN', HOK', HREM', Or.inl rfl, HW, by omega⟩
          · have hndb : ((nd : Int) == 0) = false := by rw [beq_eq_false_iff_ne]; omega
            by_cases hM : nM < 19
            · have hMz : (nM : Int) < 19 := by omega
              have HRUN' : Hid ((⟨m * 10, nd + 1, nM + 1, dp, tr, dot, true⟩ : RF).run (s.data.toList.drop (k + 1)) = σ) := by
                rw [← HRUN1]
                show _ = RF.run (RF.step _ c) _
                unfold RF.step
                rw [if_neg hn46, if_neg (fun h => hnd0 h.2), if_pos hM, show m * 10 + (c.toNat - 48) = m * 10 by omega]
              have HOK' : Hid (RFok ⟨m * 10, nd + 1, nM + 1, dp, tr, dot, true⟩ (k + 1)) := by
                have := rfok_step HOK.out c (Or.inl hc)
                unfold RF.step at this
                rw [if_neg hn46, if_neg (fun h => hnd0 h.2), if_pos hM, show m * 10 + (c.toNat - 48) = m * 10 by omega] at this
                exact this
              have hmb2 := hmb hM
              have w1 : IntKind.u64.wrap ((m : Int) * 10) = (m : Int) * 10 := u64_id (by omega) (by omega)
              have w2 : IntKind.u8.wrap ((c.toNat : Int) - 48) = ((c.toNat - 48 : Nat) : Int) := u8_of (by omega) (by omega)
              have w3 : IntKind.u64.wrap ((c.toNat - 48 : Nat) : Int) = ((c.toNat - 48 : Nat) : Int) := u64_id (by omega) (by omega)
              have w4 : IntKind.u64.wrap ((m : Int) * 10 + ((c.toNat - 48 : Nat) : Int)) = ((m * 10 + (c.toNat - 48) : Nat) : Int) := u64_of (by omega) (by omega)
              clear HRUN HOK HREM HRUN1 HREM1 hcd hc HR' HSD hmb
              go_wp2_with fail
              go_roundg (gk - 1)
              case measure => omega
              case rel => exact ⟨k + 1, _, _, _, _, _, dot, true, by omega, rfl, rfl, by go_num, rfl, rfl, rfl, by go_num, by go_num, by go_num, HRUN', HOK', HREM', Or.inl rfl, HW, by omega⟩
            · have hMb : decide ((nM : Int) < 19) = false := decide_eq_false (by omega)
              have HRUN' : Hid ((⟨m, nd + 1, nM, dp, (tr || !decide (c.toNat = 48)), dot, true⟩ : RF).run (s.data.toList.drop (k + 1)) = σ) := by
                rw [← HRUN1]
                show _ = RF.run (RF.step _ c) _
                unfold RF.step
                rw [if_neg hn46, if_neg (fun h => hnd0 h.2), if_neg hM]
              have HOK' : Hid (RFok ⟨m, nd + 1, nM, dp, (tr || !decide (c.toNat = 48)), dot, true⟩ (k + 1)) := by
                have := rfok_step HOK.out c (Or.inl hc)
                unfold RF.step at this
                rw [if_neg hn46, if_neg (fun h => hnd0 h.2), if_neg hM] at this
                exact this
              have htr : (tr || !decide (c.toNat = 48)) = tr := by rw [decide_eq_true h48]; simp
              rw [htr] at HRUN' HOK'
              clear HRUN HOK HREM HRUN1 HREM1 hcd hc HR' HSD hmb
              go_wp2_with fail
              go_roundg (gk - 1)
              case measure => omega
              case rel => exact ⟨k + 1, _, _, _, _, _, dot, true, by omega, rfl, rfl, by go_num, rfl, rfl, rfl, by go_num, by go_num, by go_num, HRUN', HOK', HREM', Or.inl rfl, HW, by omega⟩
        · have h48b : ((c.toNat : Int) == 48) = false := by rw [beq_eq_false_iff_ne]; omega
          by_cases hM : nM < 19
          · have hMz : (nM : Int) < 19 := by omega
            have HRUN' : Hid ((⟨m * 10 + (c.toNat - 48), nd + 1, nM + 1, dp, tr, dot, true⟩ : RF).run (s.data.toList.drop (k + 1)) = σ) := by
              rw [← HRUN1]
              show _ = RF.run (RF.step _ c) _
              unfold RF.step
              rw [if_neg hn46, if_neg (fun h => h48 h.1), if_pos hM]
            have HOK' : Hid (RFok ⟨m * 10 + (c.toNat - 48), nd + 1, nM + 1, dp, tr, dot, true⟩ (k + 1)) := by
              have := rfok_step HOK.out c (Or.inl hc)
              unfold RF.step at this
              rw [if_neg hn46, if_neg (fun h => h48 h.1), if_pos hM] at this
              exact this
            have hmb2 := hmb hM
            have w1 : IntKind.u64.wrap ((m : Int) * 10) = (m : Int) * 10 := u64_id (by omega) (by omega)
            have w2 : IntKind.u8.wrap ((c.toNat : Int) - 48) = ((c.toNat - 48 : Nat) : Int) := u8_of (by omega) (by omega)
            have w3 : IntKind.u64.wrap ((c.toNat - 48 : Nat) : Int) = ((c.toNat - 48 : Nat) : Int) := u64_id (by omega) (by omega)
            have w4 : IntKind.u64.wrap ((m : Int) * 10 + ((c.toNat - 48 : Nat) : Int)) = ((m * 10 + (c.toNat - 48) : Nat) : Int) := u64_of (by omega) (by omega)
            clear HRUN HOK HREM HRUN1 HREM1 hcd hc HR' HSD hmb
            go_wp2_with fail
            go_roundg (gk - 1)
            case measure => omega
            case rel => exact ⟨k + 1, _, _, _, _, _, dot, true, by omega, rfl, rfl, by go_num, rfl, rfl, rfl, by go_num, by go_num, by go_num, HRUN', HOK', HREM', Or.inl rfl, HW, by omega⟩
          · have hMb : decide ((nM : Int) < 19) = false := decide_eq_false (by omega)
            have HRUN' : Hid ((⟨m, nd + 1, nM, dp, (tr || !decide (c.toNat = 48)), dot, true⟩ : RF).run (s.data.toList.drop (k + 1)) = σ) := by
              rw [← HRUN1]
              show _ = RF.run (RF.step _ c) _
              unfold RF.step
              rw [if_neg hn46, if_neg (fun h => h48 h.1), if_neg hM]
            have HOK' : Hid (RFok ⟨m, nd + 1, nM, dp, (tr || !decide (c.toNat = 48)), dot, true⟩ (k + 1)) := by
              have := rfok_step HOK.out c (Or.inl hc)
              unfold RF.step at this
              rw [if_neg hn46, if_neg (fun h => h48 h.1), if_neg hM] at this
              exact this
            have htr : (tr || !decide (c.toNat = 48)) = true := by rw [decide_eq_false h48]; simp
            rw [htr] at HRUN' HOK'
            clear HRUN HOK HREM HRUN1 HREM1 hcd hc HR' HSD hmb
            go_wp2_with fail
            go_roundg (gk - 1)
            case measure => omega
            case rel => exact ⟨k + 1, _, _, _, _, _, dot, true, by omega, rfl, rfl, by go_num, rfl, rfl, rfl, by go_num, by go_num, by go_num, HRUN', HOK', HREM', Or.inl rfl, HW, by omega⟩
    · have hkE : k = s.size := by omega
      have hdot : dot = true := by
        have := HREM.out
        rw [List.drop_of_length_le (by rw [← Lib.size_eq]; omega)] at this
        exact rem_end this
      have hsd : sd = true := by
        rcases HSD.out with h | h
        · exact h
        · exfalso; omega
      have HFIN : Hid ((⟨m, nd, nM, dp, tr, dot, sd⟩ : RF) = σ) := by
        have := HRUN.out
        rw [List.drop_of_length_le (by rw [← Lib.size_eq]; omega)] at this
        exact this
      subst hdot hsd hkE
      have hlb : decide ((s.size : Int) < (s.size : Int)) = false := decide_eq_false (by omega)
      clear HRUN HOK HREM HSD hg hlt
      by_cases hm0 : m = 0
      · have HP0 : Hid (P = 0) := by show _ = _; rw [hP.out, ← HFIN.out]; exact if_pos hm0
        subst hm0
        clear hP
        go_wp2_with fail
        rw [Exit.noGoto_ret]
        refine bodyPost_ret (v := .tuple #[.int .u64 (0 : Int), .int .i64 (0), .bool false, .bool tr, .bool false, .int .i64 (s.size : Int), .bool true]) (by simp [results, Tryd.results24, go_sem]) rfl ?_
        exact ⟨by (rw [← HFIN.out, HP0.out]; try rfl), HW.out⟩
      · have hmz : ((m : Int) == 0) = false := by rw [beq_eq_false_iff_ne]; omega
        have HP0 : Hid (P = dp - (nM : Int)) := by show _ = _; rw [hP.out, ← HFIN.out]; exact if_neg hm0
        clear hP
        go_wp2_with fail
        rw [Exit.noGoto_ret]
        refine bodyPost_ret (v := .tuple #[.int .u64 (m : Int), .int .i64 (dp - (nM : Int)), .bool false, .bool tr, .bool false, .int .i64 (s.size : Int), .bool true]) (by simp [results, Tryd.results24, go_sem]) rfl ?_
        exact ⟨by (rw [← HFIN.out, HP0.out]; try rfl), HW.out⟩

set_option maxRecDepth 100000 in
set_option maxHeartbeats 16000000 in
theorem read_three (s : ByteArray) (a b : List UInt8) (hT : Txt s a b) (w : World) (σ : RF) (hσ : Hid (rf0.run s.data.toList = σ)) (P : Int) (hP : Hid (P = if σ.mant = 0 then 0 else σ.dp - (σ.ndM : Int))) (h3 : 2 < s.size) :
    Calls Tryd.prog 24 #[.string s] w fun e w' => e = .returned (.tuple #[.int .u64 (σ.mant : Int), .int .i64 P, .bool false, .bool σ.tr, .bool false, .int .i64 (s.size : Int), .bool true]) ∧ w' = w := by
  have hsz := hT.sz
  have HREM0 : Hid (Rem false s.data.toList) := Or.inr ⟨rfl, a, b, hT.eq, hT.da, hT.db⟩
  have HF : Hid (∃ c0 l0, s.data.toList = c0 :: l0 ∧ dig c0) := by
    obtain ⟨x, a', ha'⟩ : ∃ x a', a = x :: a' := by
      cases a with
      | nil => exact absurd rfl hT.ne
      | cons x a' => exact ⟨x, a', rfl⟩
    exact ⟨x, a' ++ 46 :: b, by rw [hT.eq, ha']; rfl, hT.da x (by rw [ha']; simp)⟩
  have hlen : s.size = a.length + (b.length + 1) := by rw [Lib.size_eq, hT.eq, List.length_append, List.length_cons]
  have ha1 : 1 ≤ a.length := List.length_pos_iff.2 hT.ne
  have hs0 : 0 < s.size := by omega
  have hs0z : ¬ (s.size : Int) ≤ 0 := by omega
  have hs0b : decide ((s.size : Int) ≤ 0) = false := decide_eq_false hs0z
  have hsE : ¬ s = ByteArray.empty := fun h => by rw [h] at hs0; exact absurd hs0 (by decide)
  have hsEb : decide (s = ByteArray.empty) = false := decide_eq_false hsE
  obtain ⟨c0, hcd0, hix0⟩ := index_run s 0 hs0
  have hix0' : ∀ W, (Instr.index 9 (.string s) (.int .i64 0)).run Tryd.prog W = .ok (.int .u8 (c0.toNat : Int)) W := hix0
  have hc0 : 48 ≤ c0.toNat ∧ c0.toNat ≤ 57 := by
    obtain ⟨x, l0, e0, hd0⟩ := HF.out
    rw [List.drop_zero, e0] at hcd0
    injection hcd0 with e1 _
    rw [← e1]; exact hd0
  have h43 : ((c0.toNat : Int) == 43) = false := by rw [beq_eq_false_iff_ne]; omega
  have h45 : ((c0.toNat : Int) == 45) = false := by rw [beq_eq_false_iff_ne]; omega
  clear hcd0 hix0
  have h2z : (2 : Int) < (s.size : Int) := by omega
  obtain ⟨c1, hcd1, hix1⟩ := index_run s 1 (by omega)
  have hix1' : ∀ W, (Instr.index 9 (.string s) (.int .i64 1)).run Tryd.prog W = .ok (.int .u8 (c1.toNat : Int)) W := hix1
  have hc1 : c1.toNat = 46 ∨ (48 ≤ c1.toNat ∧ c1.toNat ≤ 57) := by
    have hm : c1 ∈ s.data.toList := List.mem_of_mem_drop (i := 1) (by rw [hcd1]; simp)
    rw [hT.eq, List.mem_append, List.mem_cons] at hm
    rcases hm with h | h | h
    · exact Or.inr (hT.da c1 h)
    · exact Or.inl (by rw [h]; rfl)
    · exact Or.inr (hT.db c1 h)
  have h120 : ((c1.toNat : Int) == 120) = false := by rw [beq_eq_false_iff_ne]; omega
  clear hcd1 hix1 h3
  clear hT hlen ha1
  by_cases hz : c0.toNat = 48
  · have hzb : ((c0.toNat : Int) == 48) = true := by rw [beq_iff_eq]; omega
    clear hz
    go_enter Tryd.func24, Tryd.ntmps24
    go_wp2_with fail
    go_step3
    go_wp2_with (go_at_call 40; refine (lower_walk _ hc1 _).mono ?_; rintro e w' ⟨rfl, hw⟩; rw [hw])
    go_step3
    go_wp2_with fail
    go_loopg [2, 5, 7, 9, 13, 14, 15, 16, 17] (s.size + 1) (fun gf v2 v5 v7 v9 v13 v14 v15 v16 v17 wr => ∃ (k m nd nM : Nat) (dp : Int) (tr dot sd : Bool), k ≤ s.size ∧ v2 = .int .u64 (m : Int) ∧ v5 = .bool tr ∧ v7 = .int .i64 (k : Int) ∧ v9 = .bool false ∧ v13 = .bool dot ∧ v14 = .bool sd ∧ v15 = .int .i64 (nd : Int) ∧ v16 = .int .i64 (nM : Int) ∧ v17 = .int .i64 dp ∧ Hid ((⟨m, nd, nM, dp, tr, dot, sd⟩ : RF).run (s.data.toList.drop k) = σ) ∧ Hid (RFok ⟨m, nd, nM, dp, tr, dot, sd⟩ k) ∧ Hid (Rem dot (s.data.toList.drop k)) ∧ Hid (sd = true ∨ k = 0) ∧ Hid (wr = w) ∧ s.size < gf + k)
    case atStart => exact ⟨0, 0, 0, 0, 0, false, false, false, Nat.zero_le _, rfl, rfl, rfl, rfl, rfl, rfl, rfl, rfl, rfl, (by show _ = _; rw [List.drop_zero]; exact hσ.out), rfok0, (by rw [List.drop_zero]; exact HREM0.out), Or.inr rfl, rfl, by omega⟩
    case round =>
      obtain ⟨k, m, nd, nM, dp, tr, dot, sd, hk, rfl, rfl, rfl, rfl, rfl, rfl, rfl, rfl, rfl, HRUN, HOK, HREM, HSD, HW, hg⟩ := hrel
      clear hσ HREM0
      have hkb : k ≤ 4194304 := by omega
      have hm19 : nM ≤ 19 := HOK.out.m19
      have hndk : nd ≤ k := HOK.out.ndk
      have hdl : -(k : Int) ≤ dp := HOK.out.dplo
      have hdh : dp ≤ (nd : Int) := HOK.out.dphi
      by_cases hlt : k < s.size
      · have hkz : (k : Int) < (s.size : Int) := by omega
        obtain ⟨c, hcd, hix⟩ := index_run s k hlt
        have HREM1 := HREM.out
        rw [hcd] at HREM1
        have HRUN1 := HRUN.out
        rw [hcd] at HRUN1
        have h95 : ((c.toNat : Int) == 95) = false := by
          rw [beq_eq_false_iff_ne]
          rcases rem_step HREM1 with ⟨h, _⟩ | ⟨h, _⟩
          · omega
          · unfold dig at h; omega
        rcases rem_step HREM1 with ⟨hc, hdot, HR'⟩ | ⟨hc, HR'⟩
        · subst hdot
          have h46 : ((c.toNat : Int) == 46) = true := by rw [beq_iff_eq]; omega
          have HRUN' : Hid ((⟨m, nd, nM, (nd : Int), tr, true, sd⟩ : RF).run (s.data.toList.drop (k + 1)) = σ) := by
            rw [← HRUN1]
            show _ = RF.run (RF.step _ c) _
            unfold RF.step
            rw [if_pos hc]
          have HOK' : Hid (RFok ⟨m, nd, nM, (nd : Int), tr, true, sd⟩ (k + 1)) := by
            have := rfok_step HOK.out c (Or.inr hc)
            unfold RF.step at this
            rw [if_pos hc] at this
            exact this
          have HREM' : Hid (Rem true (s.data.toList.drop (k + 1))) := HR'
          have HSD' : Hid (sd = true ∨ k + 1 = 0) := by
            rcases HSD.out with h | h
            · exact Or.inl h
            · exfalso
              obtain ⟨c0, l0, e0, hd0⟩ := HF.out
              rw [h, List.drop_zero, e0] at hcd
              injection hcd with e1 _
              rw [e1] at hd0
              unfold dig at hd0
              omega
          clear HRUN HOK HREM HRUN1 HREM1 hcd hc HR' HSD
          go_wp2_with fail
          go_roundg (gk - 1)
          case measure => omega
          case rel => exact ⟨k + 1, m, nd, nM, (nd : Int), tr, true, sd, by omega, rfl, rfl, by go_num, rfl, rfl, rfl, rfl, rfl, rfl, HRUN', HOK', HREM', HSD', HW, by omega⟩
        · have hc' : 48 ≤ c.toNat ∧ c.toNat ≤ 57 := hc
          have h46 : ((c.toNat : Int) == 46) = false := by rw [beq_eq_false_iff_ne]; omega
          have h48a : (48 : Int) ≤ (c.toNat : Int) := by omega
          have h57a : (c.toNat : Int) ≤ 57 := by omega
          have HREM' : Hid (Rem dot (s.data.toList.drop (k + 1))) := HR'
          have hn46 := dig_ne hc
          have hmb : nM < 19 → m < 1000000000000000000 := fun h => by
            have h1 : m < 10 ^ nM := HOK.out.lt
            have h2 : 10 ^ nM ≤ 10 ^ 18 := Nat.pow_le_pow_right (by decide) (by omega)
            have h3 : (10 : Nat) ^ 18 = 1000000000000000000 := by decide
            omega
          by_cases h48 : c.toNat = 48
          · have h48b : ((c.toNat : Int) == 48) = true := by rw [beq_iff_eq]; omega
            by_cases hnd0 : nd = 0
            · have hndb : ((nd : Int) == 0) = true := by rw [beq_iff_eq]; omega
              have HRUN' : Hid ((⟨m, nd, nM, dp - 1, tr, dot, true⟩ : RF).run (s.data.toList.drop (k + 1)) = σ) := by
                rw [← HRUN1]
                show _ = RF.run (RF.step _ c) _
                unfold RF.step
                rw [if_neg hn46, if_pos ⟨h48, hnd0⟩]
              have HOK' : Hid (RFok ⟨m, nd, nM, dp - 1, tr, dot, true⟩ (k + 1)) := by
                have := rfok_step HOK.out c (Or.inl hc)
                unfold RF.step at this
                rw [if_neg hn46, if_pos ⟨h48, hnd0⟩] at this
                exact this
              skip
              clear HRUN HOK HREM HRUN1 HREM1 hcd hc HR' HSD hmb
              go_wp2_with fail
              go_roundg (gk - 1)
              case measure => omega
              case rel => exact ⟨k + 1, _, _, _, _, _, dot, true, by omega, rfl, rfl, by go_num, rfl, rfl, rfl, by go_num, by go_num, by go_num, HRUN', HOK', HREM', Or.inl rfl, HW, by omega⟩
            · have hndb : ((nd : Int) == 0) = false := by rw [beq_eq_false_iff_ne]; omega
              by_cases hM : nM < 19
              · have hMz : (nM : Int) < 19 := by omega
                have HRUN' : Hid ((⟨m * 10, nd + 1, nM + 1, dp, tr, dot, true⟩ : RF).run (s.data.toList.drop (k + 1)) = σ) := by
                  rw [← HRUN1]
                  show _ = RF.run (RF.step _ c) _
                  unfold RF.step
                  rw [if_neg hn46, if_neg (fun h => hnd0 h.2), if_pos hM, show m * 10 + (c.toNat - 48) = m * 10 by omega]
                have HOK' : Hid (RFok ⟨m * 10, nd + 1, nM + 1, dp, tr, dot, true⟩ (k + 1)) := by
                  have := rfok_step HOK.out c (Or.inl hc)
                  unfold RF.step at this
                  rw [if_neg hn46, if_neg (fun h => hnd0 h.2), if_pos hM, show m * 10 + (c.toNat - 48) = m * 10 by omega] at this
                  exact this
                have hmb2 := hmb hM
                have w1 : IntKind.u64.wrap ((m : Int) * 10) = (m : Int) * 10 := u64_id (by omega) (by omega)
                have w2 : IntKind.u8.wrap ((c.toNat : Int) - 48) = ((c.toNat - 48 : Nat) : Int) := u8_of (by omega) (by omega)
                have w3 : IntKind.u64.wrap ((c.toNat - 48 : Nat) : Int) = ((c.toNat - 48 : Nat) : Int) := u64_id (by omega) (by omega)
                have w4 : IntKind.u64.wrap ((m : Int) * 10 + ((c.toNat - 48 : Nat) : Int)) = ((m * 10 + (c.toNat - 48) : Nat) : Int) := u64_of (by omega) (by omega)
                clear HRUN HOK HREM HRUN1 HREM1 hcd hc HR' HSD hmb
                go_wp2_with fail
                go_roundg (gk - 1)
                case measure => omega
                case rel => exact ⟨k + 1, _, _, _, _, _, dot, true, by omega, rfl, rfl, by go_num, rfl, rfl, rfl, by go_num, by go_num, by go_num, HRUN', HOK', HREM', Or.inl rfl, HW, by omega⟩
              · have hMb : decide ((nM : Int) < 19) = false := decide_eq_false (by omega)
                have HRUN' : Hid ((⟨m, nd + 1, nM, dp, (tr || !decide (c.toNat = 48)), dot, true⟩ : RF).run (s.data.toList.drop (k + 1)) = σ) := by
                  rw [← HRUN1]
                  show _ = RF.run (RF.step _ c) _
                  unfold RF.step
                  rw [if_neg hn46, if_neg (fun h => hnd0 h.2), if_neg hM]
                have HOK' : Hid (RFok ⟨m, nd + 1, nM, dp, (tr || !decide (c.toNat = 48)), dot, true⟩ (k + 1)) := by
                  have := rfok_step HOK.out c (Or.inl hc)
                  unfold RF.step at this
                  rw [if_neg hn46, if_neg (fun h => hnd0 h.2), if_neg hM] at this
                  exact this
                have htr : (tr || !decide (c.toNat = 48)) = tr := by rw [decide_eq_true h48]; simp
                rw [htr] at HRUN' HOK'
                clear HRUN HOK HREM HRUN1 HREM1 hcd hc HR' HSD hmb
                go_wp2_with fail
                go_roundg (gk - 1)
                case measure => omega
                case rel => exact ⟨k + 1, _, _, _, _, _, dot, true, by omega, rfl, rfl, by go_num, rfl, rfl, rfl, by go_num, by go_num, by go_num, HRUN', HOK', HREM', Or.inl rfl, HW, by omega⟩
          · have h48b : ((c.toNat : Int) == 48) = false := by rw [beq_eq_false_iff_ne]; omega
            by_cases hM : nM < 19
            · have hMz : (nM : Int) < 19 := by omega
              have HRUN' : Hid ((⟨m * 10 + (c.toNat - 48), nd + 1, nM + 1, dp, tr, dot, true⟩ : RF).run (s.data.toList.drop (k + 1)) = σ) := by
                rw [← HRUN1]
                show _ = RF.run (RF.step _ c) _
                unfold RF.step
                rw [if_neg hn46, if_neg (fun h => h48 h.1), if_pos hM]
              have HOK' : Hid (RFok ⟨m * 10 + (c.toNat - 48), nd + 1, nM + 1, dp, tr, dot, true⟩ (k + 1)) := by
                have := rfok_step HOK.out c (Or.inl hc)
                unfold RF.step at this
                rw [if_neg hn46, if_neg (fun h => h48 h.1), if_pos hM] at this
                exact this
              have hmb2 := hmb hM
              have w1 : IntKind.u64.wrap ((m : Int) * 10) = (m : Int) * 10 := u64_id (by omega) (by omega)
              have w2 : IntKind.u8.wrap ((c.toNat : Int) - 48) = ((c.toNat - 48 : Nat) : Int) := u8_of (by omega) (by omega)
              have w3 : IntKind.u64.wrap ((c.toNat - 48 : Nat) : Int) = ((c.toNat - 48 : Nat) : Int) := u64_id (by omega) (by omega)
              have w4 : IntKind.u64.wrap ((m : Int) * 10 + ((c.toNat - 48 : Nat) : Int)) = ((m * 10 + (c.toNat - 48) : Nat) : Int) := u64_of (by omega) (by omega)
              clear HRUN HOK HREM HRUN1 HREM1 hcd hc HR' HSD hmb
              go_wp2_with fail
              go_roundg (gk - 1)
              case measure => omega
              case rel => exact ⟨k + 1, _, _, _, _, _, dot, true, by omega, rfl, rfl, by go_num, rfl, rfl, rfl, by go_num, by go_num, by go_num, HRUN', HOK', HREM', Or.inl rfl, HW, by omega⟩
            · have hMb : decide ((nM : Int) < 19) = false := decide_eq_false (by omega)
              have HRUN' : Hid ((⟨m, nd + 1, nM, dp, (tr || !decide (c.toNat = 48)), dot, true⟩ : RF).run (s.data.toList.drop (k + 1)) = σ) := by
                rw [← HRUN1]
                show _ = RF.run (RF.step _ c) _
                unfold RF.step
                rw [if_neg hn46, if_neg (fun h => h48 h.1), if_neg hM]
              have HOK' : Hid (RFok ⟨m, nd + 1, nM, dp, (tr || !decide (c.toNat = 48)), dot, true⟩ (k + 1)) := by
                have := rfok_step HOK.out c (Or.inl hc)
                unfold RF.step at this
                rw [if_neg hn46, if_neg (fun h => h48 h.1), if_neg hM] at this
                exact this
              have htr : (tr || !decide (c.toNat = 48)) = true := by rw [decide_eq_false h48]; simp
              rw [htr] at HRUN' HOK'
              clear HRUN HOK HREM HRUN1 HREM1 hcd hc HR' HSD hmb
              go_wp2_with fail
              go_roundg (gk - 1)
              case measure => omega
              case rel => exact ⟨k + 1, _, _, _, _, _, dot, true, by omega, rfl, rfl, by go_num, rfl, rfl, rfl, by go_num, by go_num, by go_num, HRUN', HOK', HREM', Or.inl rfl, HW, by omega⟩
      · have hkE : k = s.size := by omega
        have hdot : dot = true := by
          have := HREM.out
          rw [List.drop_of_length_le (by rw [← Lib.size_eq]; omega)] at this
          exact rem_end this
        have hsd : sd = true := by
          rcases HSD.out with h | h
          · exact h
          · exfalso; omega
        have HFIN : Hid ((⟨m, nd, nM, dp, tr, dot, sd⟩ : RF) = σ) := by
          have := HRUN.out
          rw [List.drop_of_length_le (by rw [← Lib.size_eq]; omega)] at this
          exact this
        subst hdot hsd hkE
        have hlb : decide ((s.size : Int) < (s.size : Int)) = false := decide_eq_false (by omega)
        clear HRUN HOK HREM HSD hg hlt
        by_cases hm0 : m = 0
        · have HP0 : Hid (P = 0) := by show _ = _; rw [hP.out, ← HFIN.out]; exact if_pos hm0
          subst hm0
          clear hP
          go_wp2_with fail
          rw [Exit.noGoto_ret]
          refine bodyPost_ret (v := .tuple #[.int .u64 (0 : Int), .int .i64 (0), .bool false, .bool tr, .bool false, .int .i64 (s.size : Int), .bool true]) (by simp [results, Tryd.results24, go_sem]) rfl ?_
          exact ⟨by (rw [← HFIN.out, HP0.out]; try rfl), HW.out⟩
        · have hmz : ((m : Int) == 0) = false := by rw [beq_eq_false_iff_ne]; omega
          have HP0 : Hid (P = dp - (nM : Int)) := by show _ = _; rw [hP.out, ← HFIN.out]; exact if_neg hm0
          clear hP
          go_wp2_with fail
          rw [Exit.noGoto_ret]
          refine bodyPost_ret (v := .tuple #[.int .u64 (m : Int), .int .i64 (dp - (nM : Int)), .bool false, .bool tr, .bool false, .int .i64 (s.size : Int), .bool true]) (by simp [results, Tryd.results24, go_sem]) rfl ?_
          exact ⟨by (rw [← HFIN.out, HP0.out]; try rfl), HW.out⟩
  · have hzb : ((c0.toNat : Int) == 48) = false := by rw [beq_eq_false_iff_ne]; omega
    clear hz
    go_enter Tryd.func24, Tryd.ntmps24
    go_wp2_with fail
    go_step3
    go_wp2_with (go_at_call 40; refine (lower_walk _ hc1 _).mono ?_; rintro e w' ⟨rfl, hw⟩; rw [hw])
    go_step3
    go_wp2_with fail
    go_loopg [2, 5, 7, 9, 13, 14, 15, 16, 17] (s.size + 1) (fun gf v2 v5 v7 v9 v13 v14 v15 v16 v17 wr => ∃ (k m nd nM : Nat) (dp : Int) (tr dot sd : Bool), k ≤ s.size ∧ v2 = .int .u64 (m : Int) ∧ v5 = .bool tr ∧ v7 = .int .i64 (k : Int) ∧ v9 = .bool false ∧ v13 = .bool dot ∧ v14 = .bool sd ∧ v15 = .int .i64 (nd : Int) ∧ v16 = .int .i64 (nM : Int) ∧ v17 = .int .i64 dp ∧ Hid ((⟨m, nd, nM, dp, tr, dot, sd⟩ : RF).run (s.data.toList.drop k) = σ) ∧ Hid (RFok ⟨m, nd, nM, dp, tr, dot, sd⟩ k) ∧ Hid (Rem dot (s.data.toList.drop k)) ∧ Hid (sd = true ∨ k = 0) ∧ Hid (wr = w) ∧ s.size < gf + k)
    case atStart => exact ⟨0, 0, 0, 0, 0, false, false, false, Nat.zero_le _, rfl, rfl, rfl, rfl, rfl, rfl, rfl, rfl, rfl, (by show _ = _; rw [List.drop_zero]; exact hσ.out), rfok0, (by rw [List.drop_zero]; exact HREM0.out), Or.inr rfl, rfl, by omega⟩
    case round =>
      obtain ⟨k, m, nd, nM, dp, tr, dot, sd, hk, rfl, rfl, rfl, rfl, rfl, rfl, rfl, rfl, rfl, HRUN, HOK, HREM, HSD, HW, hg⟩ := hrel
      clear hσ HREM0
      have hkb : k ≤ 4194304 := by omega
      have hm19 : nM ≤ 19 := HOK.out.m19
      have hndk : nd ≤ k := HOK.out.ndk
      have hdl : -(k : Int) ≤ dp := HOK.out.dplo
      have hdh : dp ≤ (nd : Int) := HOK.out.dphi
      by_cases hlt : k < s.size
      · have hkz : (k : Int) < (s.size : Int) := by omega
        obtain ⟨c, hcd, hix⟩ := index_run s k hlt
        have HREM1 := HREM.out
        rw [hcd] at HREM1
        have HRUN1 := HRUN.out
        rw [hcd] at HRUN1
        have h95 : ((c.toNat : Int) == 95) = false := by
          rw [beq_eq_false_iff_ne]
          rcases rem_step HREM1 with ⟨h, _⟩ | ⟨h, _⟩
          · omega
          · unfold dig at h; omega
        rcases rem_step HREM1 with ⟨hc, hdot, HR'⟩ | ⟨hc, HR'⟩
        · subst hdot
          have h46 : ((c.toNat : Int) == 46) = true := by rw [beq_iff_eq]; omega
          have HRUN' : Hid ((⟨m, nd, nM, (nd : Int), tr, true, sd⟩ : RF).run (s.data.toList.drop (k + 1)) = σ) := by
            rw [← HRUN1]
            show _ = RF.run (RF.step _ c) _
            unfold RF.step
            rw [if_pos hc]
          have HOK' : Hid (RFok ⟨m, nd, nM, (nd : Int), tr, true, sd⟩ (k + 1)) := by
            have := rfok_step HOK.out c (Or.inr hc)
            unfold RF.step at this
            rw [if_pos hc] at this
            exact this
          have HREM' : Hid (Rem true (s.data.toList.drop (k + 1))) := HR'
          have HSD' : Hid (sd = true ∨ k + 1 = 0) := by
            rcases HSD.out with h | h
            · exact Or.inl h
            · exfalso
              obtain ⟨c0, l0, e0, hd0⟩ := HF.out
              rw [h, List.drop_zero, e0] at hcd
              injection hcd with e1 _
              rw [e1] at hd0
              unfold dig at hd0
              omega
          clear HRUN HOK HREM HRUN1 HREM1 hcd hc HR' HSD
          go_wp2_with fail
          go_roundg (gk - 1)
          case measure => omega
          case rel => exact ⟨k + 1, m, nd, nM, (nd : Int), tr, true, sd, by omega, rfl, rfl, by go_num, rfl, rfl, rfl, rfl, rfl, rfl, HRUN', HOK', HREM', HSD', HW, by omega⟩
        · have hc' : 48 ≤ c.toNat ∧ c.toNat ≤ 57 := hc
          have h46 : ((c.toNat : Int) == 46) = false := by rw [beq_eq_false_iff_ne]; omega
          have h48a : (48 : Int) ≤ (c.toNat : Int) := by omega
          have h57a : (c.toNat : Int) ≤ 57 := by omega
          have HREM' : Hid (Rem dot (s.data.toList.drop (k + 1))) := HR'
          have hn46 := dig_ne hc
          have hmb : nM < 19 → m < 1000000000000000000 := fun h => by
            have h1 : m < 10 ^ nM := HOK.out.lt
            have h2 : 10 ^ nM ≤ 10 ^ 18 := Nat.pow_le_pow_right (by decide) (by omega)
            have h3 : (10 : Nat) ^ 18 = 1000000000000000000 := by decide
            omega
          by_cases h48 : c.toNat = 48
          · have h48b : ((c.toNat : Int) == 48) = true := by rw [beq_iff_eq]; omega
            by_cases hnd0 : nd = 0
            · have hndb : ((nd : Int) == 0) = true := by rw [beq_iff_eq]; omega
              have HRUN' : Hid ((⟨m, nd, nM, dp - 1, tr, dot, true⟩ : RF).run (s.data.toList.drop (k + 1)) = σ) := by
                rw [← HRUN1]
                show _ = RF.run (RF.step _ c) _
                unfold RF.step
                rw [if_neg hn46, if_pos ⟨h48, hnd0⟩]
              have HOK' : Hid (RFok ⟨m, nd, nM, dp - 1, tr, dot, true⟩ (k + 1)) := by
                have := rfok_step HOK.out c (Or.inl hc)
                unfold RF.step at this
                rw [if_neg hn46, if_pos ⟨h48, hnd0⟩] at this
                exact this
              skip
              clear HRUN HOK HREM HRUN1 HREM1 hcd hc HR' HSD hmb
              go_wp2_with fail
              go_roundg (gk - 1)
              case measure => omega
              case rel => exact ⟨k + 1, _, _, _, _, _, dot, true, by omega, rfl, rfl, by go_num, rfl, rfl, rfl, by go_num, by go_num, by go_num, HRUN', HOK', HREM', Or.inl rfl, HW, by omega⟩
            · have hndb : ((nd : Int) == 0) = false := by rw [beq_eq_false_iff_ne]; omega
              by_cases hM : nM < 19
              · have hMz : (nM : Int) < 19 := by omega
                have HRUN' : Hid ((⟨m * 10, nd + 1, nM + 1, dp, tr, dot, true⟩ : RF).run (s.data.toList.drop (k + 1)) = σ) := by
                  rw [← HRUN1]
                  show _ = RF.run (RF.step _ c) _
                  unfold RF.step
                  rw [if_neg hn46, if_neg (fun h => hnd0 h.2), if_pos hM, show m * 10 + (c.toNat - 48) = m * 10 by omega]
                have HOK' : Hid (RFok ⟨m * 10, nd + 1, nM + 1, dp, tr, dot, true⟩ (k + 1)) := by
                  have := rfok_step HOK.out c (Or.inl hc)
                  unfold RF.step at this
                  rw [if_neg hn46, if_neg (fun h => hnd0 h.2), if_pos hM, show m * 10 + (c.toNat - 48) = m * 10 by omega] at this
                  exact this
                have hmb2 := hmb hM
                have w1 : IntKind.u64.wrap ((m : Int) * 10) = (m : Int) * 10 := u64_id (by omega) (by omega)
                have w2 : IntKind.u8.wrap ((c.toNat : Int) - 48) = ((c.toNat - 48 : Nat) : Int) := u8_of (by omega) (by omega)
                have w3 : IntKind.u64.wrap ((c.toNat - 48 : Nat) : Int) = ((c.toNat - 48 : Nat) : Int) := u64_id (by omega) (by omega)
                have w4 : IntKind.u64.wrap ((m : Int) * 10 + ((c.toNat - 48 : Nat) : Int)) = ((m * 10 + (c.toNat - 48) : Nat) : Int) := u64_of (by omega) (by omega)
                clear HRUN HOK HREM HRUN1 HREM1 hcd hc HR' HSD hmb
                go_wp2_with fail
                go_roundg (gk - 1)
                case measure => omega
                case rel => exact ⟨k + 1, _, _, _, _, _, dot, true, by omega, rfl, rfl, by go_num, rfl, rfl, rfl, by go_num, by go_num, by go_num, HRUN', HOK', HREM', Or.inl rfl, HW, by omega⟩
              · have hMb : decide ((nM : Int) < 19) = false := decide_eq_false (by omega)
                have HRUN' : Hid ((⟨m, nd + 1, nM, dp, (tr || !decide (c.toNat = 48)), dot, true⟩ : RF).run (s.data.toList.drop (k + 1)) = σ) := by
                  rw [← HRUN1]
                  show _ = RF.run (RF.step _ c) _
                  unfold RF.step
                  rw [if_neg hn46, if_neg (fun h => hnd0 h.2), if_neg hM]
                have HOK' : Hid (RFok ⟨m, nd + 1, nM, dp, (tr || !decide (c.toNat = 48)), dot, true⟩ (k + 1)) := by
                  have := rfok_step HOK.out c (Or.inl hc)
                  unfold RF.step at this
                  rw [if_neg hn46, if_neg (fun h => hnd0 h.2), if_neg hM] at this
                  exact this
                have htr : (tr || !decide (c.toNat = 48)) = tr := by rw [decide_eq_true h48]; simp
                rw [htr] at HRUN' HOK'
                clear HRUN HOK HREM HRUN1 HREM1 hcd hc HR' HSD hmb
                go_wp2_with fail
                go_roundg (gk - 1)
                case measure => omega
                case rel => exact ⟨k + 1, _, _, _, _, _, dot, true, by omega, rfl, rfl, by go_num, rfl, rfl, rfl, by go_num, by go_num, by go_num, HRUN', HOK', HREM', Or.inl rfl, HW, by omega⟩
          · have h48b : ((c.toNat : Int) == 48) = false := by rw [beq_eq_false_iff_ne]; omega
            by_cases hM : nM < 19
            · have hMz : (nM : Int) < 19 := by omega
              have HRUN' : Hid ((⟨m * 10 + (c.toNat - 48), nd + 1, nM + 1, dp, tr, dot, true⟩ : RF).run (s.data.toList.drop (k + 1)) = σ) := by
                rw [← HRUN1]
                show _ = RF.run (RF.step _ c) _
                unfold RF.step
                rw [if_neg hn46, if_neg (fun h => h48 h.1), if_pos hM]
              have HOK' : Hid (RFok ⟨m * 10 + (c.toNat - 48), nd + 1, nM + 1, dp, tr, dot, true⟩ (k + 1)) := by
                have := rfok_step HOK.out c (Or.inl hc)
                unfold RF.step at this
                rw [if_neg hn46, if_neg (fun h => h48 h.1), if_pos hM] at this
                exact this
              have hmb2 := hmb hM
              have w1 : IntKind.u64.wrap ((m : Int) * 10) = (m : Int) * 10 := u64_id (by omega) (by omega)
              have w2 : IntKind.u8.wrap ((c.toNat : Int) - 48) = ((c.toNat - 48 : Nat) : Int) := u8_of (by omega) (by omega)
              have w3 : IntKind.u64.wrap ((c.toNat - 48 : Nat) : Int) = ((c.toNat - 48 : Nat) : Int) := u64_id (by omega) (by omega)
              have w4 : IntKind.u64.wrap ((m : Int) * 10 + ((c.toNat - 48 : Nat) : Int)) = ((m * 10 + (c.toNat - 48) : Nat) : Int) := u64_of (by omega) (by omega)
              clear HRUN HOK HREM HRUN1 HREM1 hcd hc HR' HSD hmb
              go_wp2_with fail
              go_roundg (gk - 1)
              case measure => omega
              case rel => exact ⟨k + 1, _, _, _, _, _, dot, true, by omega, rfl, rfl, by go_num, rfl, rfl, rfl, by go_num, by go_num, by go_num, HRUN', HOK', HREM', Or.inl rfl, HW, by omega⟩
            · have hMb : decide ((nM : Int) < 19) = false := decide_eq_false (by omega)
              have HRUN' : Hid ((⟨m, nd + 1, nM, dp, (tr || !decide (c.toNat = 48)), dot, true⟩ : RF).run (s.data.toList.drop (k + 1)) = σ) := by
                rw [← HRUN1]
                show _ = RF.run (RF.step _ c) _
                unfold RF.step
                rw [if_neg hn46, if_neg (fun h => h48 h.1), if_neg hM]
              have HOK' : Hid (RFok ⟨m, nd + 1, nM, dp, (tr || !decide (c.toNat = 48)), dot, true⟩ (k + 1)) := by
                have := rfok_step HOK.out c (Or.inl hc)
                unfold RF.step at this
                rw [if_neg hn46, if_neg (fun h => h48 h.1), if_neg hM] at this
                exact this
              have htr : (tr || !decide (c.toNat = 48)) = true := by rw [decide_eq_false h48]; simp
              rw [htr] at HRUN' HOK'
              clear HRUN HOK HREM HRUN1 HREM1 hcd hc HR' HSD hmb
              go_wp2_with fail
              go_roundg (gk - 1)
              case measure => omega
              case rel => exact ⟨k + 1, _, _, _, _, _, dot, true, by omega, rfl, rfl, by go_num, rfl, rfl, rfl, by go_num, by go_num, by go_num, HRUN', HOK', HREM', Or.inl rfl, HW, by omega⟩
      · have hkE : k = s.size := by omega
        have hdot : dot = true := by
          have := HREM.out
          rw [List.drop_of_length_le (by rw [← Lib.size_eq]; omega)] at this
          exact rem_end this
        have hsd : sd = true := by
          rcases HSD.out with h | h
          · exact h
          · exfalso; omega
        have HFIN : Hid ((⟨m, nd, nM, dp, tr, dot, sd⟩ : RF) = σ) := by
          have := HRUN.out
          rw [List.drop_of_length_le (by rw [← Lib.size_eq]; omega)] at this
          exact this
        subst hdot hsd hkE
        have hlb : decide ((s.size : Int) < (s.size : Int)) = false := decide_eq_false (by omega)
        clear HRUN HOK HREM HSD hg hlt
        by_cases hm0 : m = 0
        · have HP0 : Hid (P = 0) := by show _ = _; rw [hP.out, ← HFIN.out]; exact if_pos hm0
          subst hm0
          clear hP
          go_wp2_with fail
          rw [Exit.noGoto_ret]
          refine bodyPost_ret (v := .tuple #[.int .u64 (0 : Int), .int .i64 (0), .bool false, .bool tr, .bool false, .int .i64 (s.size : Int), .bool true]) (by simp [results, Tryd.results24, go_sem]) rfl ?_
          exact ⟨by (rw [← HFIN.out, HP0.out]; try rfl), HW.out⟩
        · have hmz : ((m : Int) == 0) = false := by rw [beq_eq_false_iff_ne]; omega
          have HP0 : Hid (P = dp - (nM : Int)) := by show _ = _; rw [hP.out, ← HFIN.out]; exact if_neg hm0
          clear hP
          go_wp2_with fail
          rw [Exit.noGoto_ret]
          refine bodyPost_ret (v := .tuple #[.int .u64 (m : Int), .int .i64 (dp - (nM : Int)), .bool false, .bool tr, .bool false, .int .i64 (s.size : Int), .bool true]) (by simp [results, Tryd.results24, go_sem]) rfl ?_
          exact ⟨by (rw [← HFIN.out, HP0.out]; try rfl), HW.out⟩

theorem read_walk (s : ByteArray) (a b : List UInt8) (hT : Txt s a b) (w : World) (σ : RF) (hσ : Hid (rf0.run s.data.toList = σ)) (P : Int) (hP : Hid (P = if σ.mant = 0 then 0 else σ.dp - (σ.ndM : Int))) :
    Calls Tryd.prog 24 #[.string s] w fun e w' => e = .returned (.tuple #[.int .u64 (σ.mant : Int), .int .i64 P, .bool false, .bool σ.tr, .bool false, .int .i64 (s.size : Int), .bool true]) ∧ w' = w := by
  have hlen : s.size = a.length + (b.length + 1) := by rw [Lib.size_eq, hT.eq, List.length_append, List.length_cons]
  have ha1 : 1 ≤ a.length := List.length_pos_iff.2 hT.ne
  by_cases h3 : 2 < s.size
  · exact read_three s a b hT w σ hσ P hP h3
  · exact read_two s a b hT w σ hσ P hP (by omega)
end Go.Proofs.Qxb6608627aDoor
