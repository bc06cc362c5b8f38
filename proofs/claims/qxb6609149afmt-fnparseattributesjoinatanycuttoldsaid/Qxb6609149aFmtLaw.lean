import Derived.Test.Qxb6609149aFmtJn
namespace Go.Proofs.Qxb6609149aFmt
open Go.RowKit Go.Extern.Stop Go.Stop Go.Extern

theorem below_drewN {B : Nat} {w w' : World} (h : Below B w w') (n : Nat) : Below B w (w'.drewN n) := h.trans ⟨rfl, rfl, rfl, Nat.le_refl _, fun _ _ => rfl⟩
theorem getD_app_l (A B : List ByteArray) (k : Nat) (h : k < A.length) : (A ++ B).getD k ByteArray.empty = A.getD k ByteArray.empty := by
  rw [List.getD, List.getD, List.getElem?_append_left h]
theorem getD_app_r (A B : List ByteArray) (k : Nat) : (A ++ B).getD (A.length + k) ByteArray.empty = B.getD k ByteArray.empty := by
  rw [List.getD, List.getD, List.getElem?_append_right (by omega)]
  simp

set_option linter.unusedSimpArgs false in
set_option maxRecDepth 100000 in
set_option maxHeartbeats 4000000 in
theorem law_walk (F : Interp) (a b : ByteArray) (w : World) (hM : MaxL w) (hF : F.answers w.tape) (ha : a.size ≤ maxLen) (hb : b.size ≤ maxLen) :
    Calls Tryf.prog 3 #[.string a, .string b] w fun e w' => e = .returned (.bool true) ∧ Below w.heap.size w w' := by
  have H4 : Hid (Calls Tryf.prog 4 #[.string a, .string b] w fun e w' => SomeBool e ∧ w' = w) := bytes4 a b w ha hb
  unfold maxLen at ha hb
  go_enter Tryf.func3, Tryf.ntmps3
  go_wp2_with fail
  refine H4.out.mono ?_
  rintro e w' ⟨⟨bb, rfl⟩, hw⟩
  rw [hw]
  clear hw H4
  cases bb
  · go_wp2; go_ret; exact ⟨rfl, Below.refl _ _⟩
  by_cases q1 : (524288 : Int) < (a.size : Int)
  · go_wp2; go_ret; exact ⟨rfl, Below.refl _ _⟩
  have q1b : decide ((524288 : Int) < (a.size : Int)) = false := decide_eq_false q1
  by_cases q2 : (524288 : Int) < (b.size : Int)
  · go_wp2; go_ret; exact ⟨rfl, Below.refl _ _⟩
  have q2b : decide ((524288 : Int) < (b.size : Int)) = false := decide_eq_false q2
  obtain ⟨z1, hz1, ha1⟩ := add_run a ⟨#[44]⟩ (by show _ + 1 ≤ _; omega)
  have hs1 : z1.size = a.size + 1 := by rw [Lib.size_eq, hz1, List.length_append, ← Lib.size_eq]; rfl
  obtain ⟨z, hz2, ha2⟩ := add_run z1 b (by omega)
  have hs2 : z.size = a.size + 1 + b.size := by rw [Lib.size_eq, hz2, List.length_append, ← Lib.size_eq, ← Lib.size_eq, hs1]
  have hzz : z.data.toList = a.data.toList ++ 44 :: b.data.toList := by rw [hz2, hz1]; simp
  have HSG : Hid (segs z = segs a ++ segs b) := segs_join z a b hzz
  have hacc := acc_append (segs a) (segs b)
  have HACC : Hid (Acc (segs z) ↔ Acc (segs a) ∧ Acc (segs b) ∧ (segs a).length + (segs b).length ≤ 8 ∧ ∀ x ∈ segs a, ∀ y ∈ segs b, x ≠ y) := by
    show _ ↔ _
    rw [HSG.out]; exact hacc
  have HJ : Hid (joinC ((segs a ++ segs b).map (·.data.toList)) = z.data.toList) := by
    show _ = _
    rw [← HSG.out, segs_data, joinC_spl]
  have HSZ : Hid (∀ j, ((segs a ++ segs b).getD j ByteArray.empty).size ≤ 16777216) := fun j => by
    rw [← HSG.out]
    have := segs_size z j
    omega
  clear hz1 hz2 hzz hacc
  go_wp2_with fail
  refine (pa_walk F z w (by omega) hM hF).mono ?_
  rintro e w1 ⟨hb1, hab⟩
  have hM1 := hM.below hb1
  have hF1 : F.answers w1.tape := by rw [hb1.tape]; exact hF
  have KA := fun w' => pa_walk F a w' (by omega)
  have KB := fun w' => pa_walk F b w' (by omega)
  have HKA : Hid (∀ w', MaxL w' → F.answers w'.tape → Calls Tryf.prog 5 #[.string a] w' fun e w'' => PaOut a w' e w'') := KA
  have HKB : Hid (∀ w', MaxL w' → F.answers w'.tape → Calls Tryf.prog 5 #[.string b] w' fun e w'' => PaOut b w' e w'') := KB
  clear KA KB
  rcases hab with ⟨hAcc, rfl, hsz1, hcAB⟩ | ⟨hNot, pAB, rfl⟩
  · have hparts := HACC.out.1 hAcc
    rw [HSG.out] at hcAB
    rw [HSG.out]
    clear HACC hAcc
    go_wp2_with fail
    refine (HKA.out w1 hM1 hF1).mono ?_
    rintro e w2 ⟨hb2, hA⟩
    have hM2 := hM1.below hb2
    have hF2 : F.answers w2.tape := by rw [hb2.tape]; exact hF1
    rcases hA with ⟨_, rfl, hsz2, hcA⟩ | ⟨hn, _⟩
    rotate_left
    · exact absurd hparts.1 hn
    go_wp2_with fail
    refine (HKB.out w2 hM2 hF2).mono ?_
    rintro e w3 ⟨hb3, hB⟩
    rcases hB with ⟨_, rfl, hsz3, hcB⟩ | ⟨hn, _⟩
    rotate_left
    · exact absurd hparts.2.1 hn
    obtain ⟨_, _, hlen, hdis⟩ := hparts
    obtain ⟨A, hA⟩ : ∃ A, segs a = A := ⟨_, rfl⟩
    obtain ⟨B, hB⟩ : ∃ B, segs b = B := ⟨_, rfl⟩
    rw [hA] at hcA hcAB hlen hdis HJ HSZ ⊢
    rw [hB] at hcB hcAB hlen hdis HJ HSZ ⊢
    have HDIS : Hid (∀ x ∈ A, ∀ y ∈ B, x ≠ y) := hdis
    have HCAB : Hid (∀ j, j < (A ++ B).length → w3.cell? ⟨w.heap.size, j, none⟩ = some (.string ((A ++ B).getD j ByteArray.empty))) := fun j hj => (hb3.cell (Nat.lt_of_lt_of_le hsz1 hb2.size)).trans ((hb2.cell hsz1).trans (hcAB j hj))
    have HCA : Hid (∀ j, j < A.length → w3.cell? ⟨w1.heap.size, j, none⟩ = some (.string (A.getD j ByteArray.empty))) := fun j hj => (hb3.cell hsz2).trans (hcA j hj)
    have HCB : Hid (∀ j, j < B.length → w3.cell? ⟨w2.heap.size, j, none⟩ = some (.string (B.getD j ByteArray.empty))) := hcB
    have hbw := (hb1.trans (hb2.mono hb1.size)).trans (hb3.mono (Nat.le_trans hb1.size hb2.size))
    have hlenAB : (A ++ B).length = A.length + B.length := List.length_append
    skip
    clear hA hB hdis hcAB hcA hcB HKA HKB HSG
    have hl8 : (A.length : Int) + (B.length : Int) ≤ 8 := by omega
    go_wp2_with fail
    go_loopw [11, 12] (fun f i wr => ∃ k n : Nat, k ≤ A.length ∧ i = .int .i64 k ∧ f = .bool true ∧ wr = w3.drewN n) (fun _ i _ => A.length - (intOf i).toNat)
    case atStart => exact ⟨0, 0, Nat.zero_le _, rfl, rfl, rfl⟩
    case round =>
      obtain ⟨k, n, hk, rfl, rfl, rfl⟩ := hrel
      by_cases hlt : k < A.length
      · have hkz : (k : Int) < (A.length : Int) := by omega
        have hcX := HCA.out k hlt
        have hmX := getD_mem A k hlt
        obtain ⟨X, hX⟩ : ∃ X, A.getD k ByteArray.empty = X := ⟨_, rfl⟩
        rw [hX] at hcX hmX
        clear hX
        go_wp2_with fail
        go_loopw [11, 13] (fun f j wr => ∃ m n : Nat, m ≤ B.length ∧ j = .int .i64 m ∧ f = .bool true ∧ wr = w3.drewN n) (fun _ j _ => B.length - (intOf j).toNat)
        case atStart => exact ⟨0, n, Nat.zero_le _, rfl, rfl, rfl⟩
        case round =>
          obtain ⟨m, n2, hm, rfl, rfl, rfl⟩ := hrel
          by_cases hlt2 : m < B.length
          · have hmz : (m : Int) < (B.length : Int) := by omega
            have hcY := HCB.out m hlt2
            have hne := HDIS.out X hmX _ (getD_mem B m hlt2)
            obtain ⟨Y, hY⟩ : ∃ Y, B.getD m ByteArray.empty = Y := ⟨_, rfl⟩
            rw [hY] at hcY hne
            clear hY
            have hXY : (X.toList == Y.toList) = false := by
              rw [beq_eq_false_iff_ne, Lib.toList_data, Lib.toList_data]
              exact fun e => hne (bytes_ext e)
            clear hne
            go_wp2_with fail
            go_quiet (fail)
            go_wp2
            go_roundw
            case rel => exact ⟨m + 1, _, by omega, by go_num, rfl, rfl⟩
            case measure => simp [intOf]; omega
          · have hmz : ¬ (m : Int) < (B.length : Int) := by omega
            go_wp2
            go_roundw
            case rel => exact ⟨k + 1, _, by omega, by go_num, rfl, rfl⟩
            case measure => simp [intOf]; omega
      · have hkz : ¬ (k : Int) < (A.length : Int) := by omega
        have heq : (((A.length : Int) + (B.length : Int)) == ((A.length : Int) + (B.length : Int))) = true := beq_self_eq_true _
        go_wp2_with fail
        go_loopw [14] (fun i wr => ∃ k n : Nat, k ≤ A.length ∧ i = .int .i64 k ∧ wr = w3.drewN n) (fun i _ => A.length - (intOf i).toNat)
        case atStart => exact ⟨0, n, Nat.zero_le _, rfl, rfl⟩
        case round =>
          obtain ⟨k, n, hk, rfl, rfl⟩ := hrel
          by_cases hlt : k < A.length
          · have hkz : (k : Int) < (A.length : Int) := by omega
            have hkz2 : (k : Int) < (A.length : Int) + (B.length : Int) := by omega
            have hcX := HCA.out k hlt
            have hcZ := HCAB.out k (by omega)
            rw [getD_app_l A B k hlt] at hcZ
            obtain ⟨X, hX⟩ : ∃ X, A.getD k ByteArray.empty = X := ⟨_, rfl⟩
            rw [hX] at hcX hcZ
            clear hX
            have hXX : (X.toList == X.toList) = true := beq_self_eq_true _
            go_wp2_with fail
            go_quiet (fail)
            go_wp2
            go_roundw
            case rel => exact ⟨k + 1, _, by omega, by go_num, rfl⟩
            case measure => simp [intOf]; omega
          · have hkz : ¬ (k : Int) < (A.length : Int) := by omega
            go_wp2_with fail
            go_loopw [15] (fun i wr => ∃ k n : Nat, k ≤ B.length ∧ i = .int .i64 k ∧ wr = w3.drewN n) (fun i _ => B.length - (intOf i).toNat)
            case atStart => exact ⟨0, n, Nat.zero_le _, rfl, rfl⟩
            case round =>
              obtain ⟨k, n, hk, rfl, rfl⟩ := hrel
              by_cases hlt : k < B.length
              · have hkz : (k : Int) < (B.length : Int) := by omega
                have hkz2 : (A.length : Int) + (k : Int) < (A.length : Int) + (B.length : Int) := by omega
                have hcX := HCB.out k hlt
                have hcZ := HCAB.out (A.length + k) (by omega)
                rw [getD_app_r A B k] at hcZ
                obtain ⟨X, hX⟩ : ∃ X, B.getD k ByteArray.empty = X := ⟨_, rfl⟩
                rw [hX] at hcX hcZ
                clear hX
                have hXX : (X.toList == X.toList) = true := beq_self_eq_true _
                go_wp2_with fail
                go_quiet (fail)
                go_wp2
                go_roundw
                case rel => exact ⟨k + 1, _, by omega, by go_num, rfl⟩
                case measure => simp [intOf]; omega
              · have hkz : ¬ (k : Int) < (B.length : Int) := by omega
                have hjw := join_walk w.heap.size (A.length + B.length) (A ++ B) (w3.drewN n) (by omega) HCAB 16777216 HSZ (Nat.le_refl _)
                rw [hlenAB] at hjw
                have HJW : Hid (Calls Tryf.prog 6 #[.slice (some ⟨w.heap.size, 0, none⟩) (A.length + B.length) (A.length + B.length)] (w3.drewN n) fun e w' => (∃ z : ByteArray, e = .returned (.string z) ∧ z.data.toList = joinC ((A ++ B).map (·.data.toList))) ∧ w' = w3.drewN n) := hjw
                clear hjw
                go_wp2_with fail
                refine HJW.out.mono ?_
                rintro e w4 ⟨⟨z', rfl, hz'⟩, hw⟩
                rw [hw]
                have hzz : z' = z := bytes_ext (hz'.trans HJ.out)
                rw [hzz]
                clear hw hz' hzz HJW
                have hzb : (z.toList == z.toList) = true := beq_self_eq_true _
                go_wp2
                go_ret
                exact ⟨rfl, below_drewN hbw n⟩
  · have HNOT : Hid (¬ (Acc (segs a) ∧ Acc (segs b) ∧ (segs a).length + (segs b).length ≤ 8 ∧ ∀ x ∈ segs a, ∀ y ∈ segs b, x ≠ y)) := fun h => hNot (HACC.out.2 h)
    clear HACC hNot HJ HSZ HSG
    go_wp2_with fail
    refine (HKA.out w1 hM1 hF1).mono ?_
    rintro e w2 ⟨hb2, hA⟩
    have hM2 := hM1.below hb2
    have hF2 : F.answers w2.tape := by rw [hb2.tape]; exact hF1
    rcases hA with ⟨hAA, rfl, hsz2, hcA⟩ | ⟨hn, pA, rfl⟩
    rotate_left
    · clear HNOT hn HKA
      go_wp2_with fail
      refine (HKB.out w2 hM2 hF2).mono ?_
      rintro e w3 ⟨hb3, hB⟩
      have hbw := (hb1.trans (hb2.mono hb1.size)).trans (hb3.mono (Nat.le_trans hb1.size hb2.size))
      rcases hB with ⟨_, rfl, _, hcB⟩ | ⟨_, pB, rfl⟩
      · clear hcB HKB
        go_wp2_with fail
        refine wp_loop_rounds 1 ?_
        rw [rounds_succ]
        go_wp2
        go_ret
        exact ⟨rfl, hbw⟩
      · clear HKB
        go_wp2_with fail
        refine wp_loop_rounds 1 ?_
        rw [rounds_succ]
        go_wp2
        go_ret
        exact ⟨rfl, hbw⟩
    go_wp2_with fail
    refine (HKB.out w2 hM2 hF2).mono ?_
    rintro e w3 ⟨hb3, hB⟩
    have hbw := (hb1.trans (hb2.mono hb1.size)).trans (hb3.mono (Nat.le_trans hb1.size hb2.size))
    rcases hB with ⟨hBB, rfl, hsz3, hcB⟩ | ⟨hn, pB, rfl⟩
    rotate_left
    · clear HNOT hn HKA HKB hcA
      go_wp2_with fail
      refine wp_loop_rounds 1 ?_
      rw [rounds_succ]
      go_wp2
      go_ret
      exact ⟨rfl, hbw⟩
    have hLA : (segs a).length ≤ 8 := hAA.1
    have hLB : (segs b).length ≤ 8 := hBB.1
    by_cases hl8 : ((segs a).length : Int) + ((segs b).length : Int) ≤ 8
    rotate_left
    · have hl8b : decide (((segs a).length : Int) + ((segs b).length : Int) ≤ 8) = false := decide_eq_false hl8
      obtain ⟨LA, hLAe⟩ : ∃ LA, (segs a).length = LA := ⟨_, rfl⟩
      obtain ⟨LB, hLBe⟩ : ∃ LB, (segs b).length = LB := ⟨_, rfl⟩
      rw [hLAe] at hLA hl8 hl8b ⊢
      rw [hLBe] at hLB hl8 hl8b ⊢
      clear HNOT HKA HKB hcA hcB hLAe hLBe hAA hBB
      go_wp2_with fail
      refine wp_loop_rounds 1 ?_
      rw [rounds_succ]
      go_wp2
      go_ret
      exact ⟨rfl, hbw⟩
    have HCL : Hid (¬ ∀ x ∈ segs a, ∀ y ∈ segs b, x ≠ y) := fun h => HNOT.out ⟨hAA, hBB, by omega, h⟩
    obtain ⟨A, hA⟩ : ∃ A, segs a = A := ⟨_, rfl⟩
    obtain ⟨B, hB⟩ : ∃ B, segs b = B := ⟨_, rfl⟩
    rw [hA] at hcA hl8 HCL hLA ⊢
    rw [hB] at hcB hl8 HCL hLB ⊢
    have HCA : Hid (∀ j, j < A.length → w3.cell? ⟨w1.heap.size, j, none⟩ = some (.string (A.getD j ByteArray.empty))) := fun j hj => (hb3.cell hsz2).trans (hcA j hj)
    have HCB : Hid (∀ j, j < B.length → w3.cell? ⟨w2.heap.size, j, none⟩ = some (.string (B.getD j ByteArray.empty))) := hcB
    clear hA hB hcA hcB HKA HKB HNOT hAA hBB
    go_wp2_with fail
    go_loopw [11, 12] (fun f i wr => ∃ (k n : Nat) (g : Bool), k ≤ A.length ∧ i = .int .i64 k ∧ f = .bool g ∧ wr = w3.drewN n ∧ Hid (g = true → ∀ i', i' < k → ∀ y ∈ B, A.getD i' ByteArray.empty ≠ y)) (fun _ i _ => A.length - (intOf i).toNat)
    case atStart => exact ⟨0, 0, true, Nat.zero_le _, rfl, rfl, rfl, fun _ i' hi => absurd hi (Nat.not_lt_zero _)⟩
    case round =>
      obtain ⟨k, n, g, hk, rfl, rfl, rfl, HG⟩ := hrel
      cases g
      · clear HG
        go_wp2
        go_ret
        exact ⟨rfl, below_drewN hbw n⟩
      by_cases hlt : k < A.length
      · have hkz : (k : Int) < (A.length : Int) := by omega
        have hcX := HCA.out k hlt
        have HX0 : Hid (∀ (_ : ∀ y ∈ B, A.getD k ByteArray.empty ≠ y), ∀ i', i' < k + 1 → ∀ y ∈ B, A.getD i' ByteArray.empty ≠ y) := fun h i' hi => by
          by_cases e : i' = k
          · rw [e]; exact h
          · exact HG.out rfl i' (by omega)
        obtain ⟨X, hX⟩ : ∃ X, A.getD k ByteArray.empty = X := ⟨_, rfl⟩
        rw [hX] at hcX HX0
        clear hX HG
        go_wp2_with fail
        go_loopw [11, 13] (fun f j wr => ∃ (m n : Nat) (g : Bool), m ≤ B.length ∧ j = .int .i64 m ∧ f = .bool g ∧ wr = w3.drewN n ∧ Hid (g = true → ∀ j', j' < m → X ≠ B.getD j' ByteArray.empty)) (fun _ j _ => B.length - (intOf j).toNat)
        case atStart => exact ⟨0, n, true, Nat.zero_le _, rfl, rfl, rfl, fun _ j' hj => absurd hj (Nat.not_lt_zero _)⟩
        case round =>
          obtain ⟨m, n2, g, hm, rfl, rfl, rfl, HM⟩ := hrel
          cases g
          · clear HM HX0
            go_wp2
            go_roundw
            case rel => exact ⟨k + 1, _, false, by omega, by go_num, rfl, rfl, fun h => by cases h⟩
            case measure => simp [intOf]; omega
          by_cases hlt2 : m < B.length
          · have hmz : (m : Int) < (B.length : Int) := by omega
            have hcY := HCB.out m hlt2
            have HY0 : Hid (X ≠ B.getD m ByteArray.empty → ∀ j', j' < m + 1 → X ≠ B.getD j' ByteArray.empty) := fun h j' hj => by
              by_cases e : j' = m
              · rw [e]; exact h
              · exact HM.out rfl j' (by omega)
            obtain ⟨Y, hY⟩ : ∃ Y, B.getD m ByteArray.empty = Y := ⟨_, rfl⟩
            rw [hY] at hcY HY0
            clear hY HM
            cases hXY : (X.toList == Y.toList)
            · have HY1 : Hid (∀ j', j' < m + 1 → X ≠ B.getD j' ByteArray.empty) := HY0.out (fun e => by rw [e, beq_self_eq_true] at hXY; cases hXY)
              clear HY0
              go_wp2_with fail
              go_quiet (fail)
              go_wp2
              go_roundw
              case rel => exact ⟨m + 1, _, true, by omega, by go_num, rfl, rfl, fun _ => HY1.out⟩
              case measure => simp [intOf]; omega
            · clear HY0
              go_wp2_with fail
              go_quiet (fail)
              go_wp2
              go_roundw
              case rel => exact ⟨m + 1, _, false, by omega, by go_num, rfl, rfl, fun h => by cases h⟩
              case measure => simp [intOf]; omega
          · have hmz : ¬ (m : Int) < (B.length : Int) := by omega
            have HX1 : Hid (∀ i', i' < k + 1 → ∀ y ∈ B, A.getD i' ByteArray.empty ≠ y) := HX0.out fun y hy => by
              obtain ⟨j, hj, rfl⟩ := exists_getD hy
              exact HM.out rfl j (by omega)
            clear HM HX0
            go_wp2
            go_roundw
            case rel => exact ⟨k + 1, _, true, by omega, by go_num, rfl, rfl, fun _ => HX1.out⟩
            case measure => simp [intOf]; omega
      · exact absurd (fun x hx y hy => by
          obtain ⟨j, hj, rfl⟩ := exists_getD hx
          exact HG.out rfl j (by omega) y hy) HCL.out
end Go.Proofs.Qxb6609149aFmt
