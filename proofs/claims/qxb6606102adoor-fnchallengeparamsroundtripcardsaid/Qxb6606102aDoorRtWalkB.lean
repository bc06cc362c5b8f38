import Derived.Test.Qxb6606102aDoorRtPre
namespace Go.Proofs.Qxb6606102aDoor
open Go.RowKit Go.Maps Go.WideMaps

set_option linter.unusedSimpArgs false in
set_option maxRecDepth 100000 in
set_option maxHeartbeats 4000000 in
theorem rt_walk_ge (a0 a1 : Option Addr) (b0 o0 c0 b1 o1 c1 : Nat) (Ns Vs : List ByteArray) (gap sep : ByteArray) (w : World) (hT : Tabs w) (hN : Strs w a0 b0 o0 Ns) (hV : Strs w a1 b1 o1 Vs)
    (hnN : a0 = none → Ns = [] ∧ c0 = 0) (hnV : a1 = none → Vs = [] ∧ c1 = 0)
    (hmin : ¬ (Vs.length : Int) < (Ns.length : Int)) (hn : Ns.length ≤ maxLen) (hv : Vs.length ≤ maxLen) (hg : gap.size ≤ maxLen) (hp : sep.size ≤ maxLen) :
    Calls Tryd.prog 6 #[.slice a0 Ns.length c0, .slice a1 Vs.length c1, .string gap, .string sep] w fun e w' => e = .returned (.bool true) ∧ Below w.heap.size w w' := by
  have HnN : Hid (a0 = none → Ns = [] ∧ c0 = 0) := hnN
  have HnV : Hid (a1 = none → Vs = [] ∧ c1 = 0) := hnV
  have h17 := bytes17 a0 a1 b0 o0 c0 b1 o1 c1 Ns Vs gap sep w hN hV hn hv hg hp
  have H17 : Hid (Calls Tryd.prog 17 #[.slice a0 Ns.length c0, .slice a1 Vs.length c1, .string gap, .string sep] w fun e w' => SomeBool e ∧ w' = w) := h17
  clear h17 hnN hnV
  unfold maxLen at hn hv hg hp
  go_enter Tryd.func6, Tryd.ntmps6
  go_wp2_with fail
  refine H17.out.mono ?_
  rintro e w' ⟨⟨bb, rfl⟩, hw⟩
  rw [hw]
  clear hw H17
  cases bb
  · go_wp2; go_ret; exact ⟨rfl, Below.refl _ _⟩
  by_cases q1 : (4096 : Int) < (Ns.length : Int)
  · go_wp2; go_ret; exact ⟨rfl, Below.refl _ _⟩
  have q1b : decide ((4096 : Int) < (Ns.length : Int)) = false := decide_eq_false q1
  by_cases q2 : (4096 : Int) < (Vs.length : Int)
  · go_wp2; go_ret; exact ⟨rfl, Below.refl _ _⟩
  have q2b : decide ((4096 : Int) < (Vs.length : Int)) = false := decide_eq_false q2
  by_cases q3 : (4096 : Int) < (gap.size : Int)
  · go_wp2; go_ret; exact ⟨rfl, Below.refl _ _⟩
  have q3b : decide ((4096 : Int) < (gap.size : Int)) = false := decide_eq_false q3
  by_cases q4 : (4096 : Int) < (sep.size : Int)
  · go_wp2; go_ret; exact ⟨rfl, Below.refl _ _⟩
  have q4b : decide ((4096 : Int) < (sep.size : Int)) = false := decide_eq_false q4
  obtain ⟨T0, hT0⟩ : ∃ T0 : Nat, 16 * Ns.length + 16 * Vs.length + gap.size + sep.size = T0 := ⟨_, rfl⟩
  have hT0i : 16 * (Ns.length : Int) + 16 * (Vs.length : Int) + (gap.size : Int) + (sep.size : Int) = (T0 : Int) := by omega
  have HT0 : Hid (16 * Ns.length + 16 * Vs.length + gap.size + sep.size = T0) := hT0
  have hT0b : T0 ≤ 200000 := by omega
  clear hT0
  go_wp2
  go_loop [9, 10] (fun t i => ∃ k : Nat, k ≤ Ns.length ∧ i = .int .i64 k ∧ T0 + sumS (Ns.take k) ≤ 1048576 ∧ t = .int .i64 ((T0 + sumS (Ns.take k) : Nat) : Int)) (fun _ i => Ns.length - (intOf i).toNat)
  case atStart => exact ⟨0, Nat.zero_le _, rfl, by simp [sumS]; omega, by simp [sumS]⟩
  case round =>
    obtain ⟨k, hk, rfl, hS, rfl⟩ := hrel
    obtain ⟨S, hSe⟩ : ∃ S, T0 + sumS (Ns.take k) = S := ⟨_, rfl⟩
    rw [hSe] at hS ⊢
    by_cases hlt : k < Ns.length
    · obtain ⟨rfl, hb0⟩ := hN.ad (by omega)
      have hc := hN.cell k hlt
      have hsn := sumS_snoc Ns k hlt
      obtain ⟨X, hX⟩ : ∃ X, Ns.getD k ByteArray.empty = X := ⟨_, rfl⟩
      rw [hX] at hc hsn
      have HS : Hid (T0 + sumS (Ns.take (k + 1)) = S + X.size) := by show _ = _; omega
      clear hX hsn hSe
      have hkz : (k : Int) < (Ns.length : Int) := by omega
      by_cases h2 : (1048576 : Int) < (X.size : Int)
      · go_wp2
        go_ret
        exact ⟨rfl, Below.refl _ _⟩
      · by_cases h3 : (1048576 : Int) < (S : Int) + (X.size : Int)
        · go_wp2
          go_ret
          exact ⟨rfl, Below.refl _ _⟩
        · go_wp2
          go_round
          case rel => exact ⟨k + 1, by omega, by go_num, by rw [HS.out]; omega, by rw [HS.out]; go_num⟩
          case measure => simp [intOf]; omega
    · have hkz : ¬ (k : Int) < (Ns.length : Int) := by omega
      have hk' : k = Ns.length := by omega
      subst hk'
      rw [sumS_all] at hSe
      have HSN : Hid (T0 + sumS Ns = S) := hSe
      clear hSe
      go_wp2
      go_loop [9, 11] (fun t i => ∃ k : Nat, k ≤ Vs.length ∧ i = .int .i64 k ∧ S + sumS (Vs.take k) ≤ 1048576 ∧ t = .int .i64 ((S + sumS (Vs.take k) : Nat) : Int)) (fun _ i => Vs.length - (intOf i).toNat)
      case atStart => exact ⟨0, Nat.zero_le _, rfl, by simp [sumS]; omega, by simp [sumS]⟩
      case round =>
        obtain ⟨k, hk, rfl, hS2, rfl⟩ := hrel
        obtain ⟨U, hUe⟩ : ∃ U, S + sumS (Vs.take k) = U := ⟨_, rfl⟩
        rw [hUe] at hS2 ⊢
        by_cases hlt : k < Vs.length
        · obtain ⟨rfl, hb0⟩ := hV.ad (by omega)
          have hc := hV.cell k hlt
          have hsn := sumS_snoc Vs k hlt
          obtain ⟨X, hX⟩ : ∃ X, Vs.getD k ByteArray.empty = X := ⟨_, rfl⟩
          rw [hX] at hc hsn
          have HS : Hid (S + sumS (Vs.take (k + 1)) = U + X.size) := by show _ = _; omega
          clear hX hsn hUe
          have hkz2 : (k : Int) < (Vs.length : Int) := by omega
          by_cases h2 : (1048576 : Int) < (X.size : Int)
          · go_wp2
            go_ret
            exact ⟨rfl, Below.refl _ _⟩
          · by_cases h3 : (1048576 : Int) < (U : Int) + (X.size : Int)
            · go_wp2
              go_ret
              exact ⟨rfl, Below.refl _ _⟩
            · go_wp2
              go_round
              case rel => exact ⟨k + 1, by omega, by go_num, by rw [HS.out]; omega, by rw [HS.out]; go_num⟩
              case measure => simp [intOf]; omega
        · have hkz2 : ¬ (k : Int) < (Vs.length : Int) := by omega
          have hk' : k = Vs.length := by omega
          subst hk'
          rw [sumS_all] at hUe
          have hsumN : sumS Ns ≤ 1048576 := by have := HSN.out; omega
          have hsumV : sumS Vs ≤ 1048576 := by omega
          clear hUe
          obtain ⟨P, hPe⟩ : ∃ P : Nat, Ns.length * (2 * gap.size + sep.size + 1) = P := ⟨_, rfl⟩
          have hPb : P ≤ 4096 * 12289 := by rw [← hPe]; exact Nat.mul_le_mul (by omega) (by omega)
          have hPi : (Ns.length : Int) * (2 * (gap.size : Int) + (sep.size : Int) + 1) = (P : Int) := by rw [← hPe]; simp
          have HP : Hid (Ns.length * (2 * gap.size + sep.size + 1) = P) := hPe
          clear hPe
          by_cases hP20 : (1048576 : Int) < (P : Int)
          · go_wp2
            go_ret
            exact ⟨rfl, Below.refl _ _⟩
          go_wp2_with fail
          clear hPi
          refine (allIn_b gap ⟨#[32, 9]⟩ w (by omega) (by decide)).mono ?_
          rintro e w1 ⟨rfl, hb1⟩
          cases hA : allIn gap ⟨#[32, 9]⟩ with
          | false =>
            go_wp2
            go_ret
            exact ⟨rfl, hb1⟩
          | true =>
          have HgB : Hid (∀ c ∈ gap.data.toList, Pl.blankB c = true) := allIn_mem hA
          clear hA
          go_wp2_with fail
          refine (allIn_b sep ⟨#[32, 9, 44]⟩ w1 (by omega) (by decide)).mono ?_
          rintro e w2 ⟨rfl, hb2'⟩
          have hb2 := hb1.trans (hb2'.mono hb1.size)
          clear hb1 hb2'
          cases hA : allIn sep ⟨#[32, 9, 44]⟩ with
          | false =>
            go_wp2
            go_ret
            exact ⟨rfl, hb2⟩
          | true =>
          have HsB : Hid (∀ c ∈ sep.data.toList, Pl.sepB c = true) := allIn_mem hA
          clear hA
          have hN2 := hN.below hb2 (fun h => (hN.ad h).2)
          have hV2 := hV.below hb2 (fun h => (hV.ad h).2)
          have hT2 := hT.below hb2
          clear hN hV hT
          go_wp2_with fail
          go_loop [13] (fun i => ∃ k : Nat, k ≤ Ns.length ∧ i = .int .i64 k ∧ Hid (∀ j, j < k → allPlain (Ns.getD j ByteArray.empty) = true)) (fun i => Ns.length - (intOf i).toNat)
          case atStart => exact ⟨0, Nat.zero_le _, rfl, fun j hj => absurd hj (Nat.not_lt_zero _)⟩
          case round =>
            obtain ⟨k, hk, rfl, HK⟩ := hrel
            by_cases hlt : k < Ns.length
            · obtain ⟨rfl, hb0⟩ := hN2.ad (by omega)
              have hc := hN2.cell k (by omega)
              have hXs := getD_le_sumS Ns k
              have HK' : Hid (allPlain (Ns.getD k ByteArray.empty) = true → ∀ j, j < k + 1 → allPlain (Ns.getD j ByteArray.empty) = true) := fun h j hj => by
                by_cases e : j = k
                · rw [e]; exact h
                · exact HK.out j (by omega)
              obtain ⟨X, hX⟩ : ∃ X, Ns.getD k ByteArray.empty = X := ⟨_, rfl⟩
              rw [hX] at hc hXs HK'
              clear hX HK
              have hkz3 : (k : Int) < (Ns.length : Int) := by omega
              have hkz4 : (k : Int) < (Ns.length : Int) := by omega
              go_wp2_with fail
              refine (plainName_walk X w2 (by omega)).mono ?_
              rintro e w3 ⟨rfl, hw⟩
              rw [hw]
              clear hw
              cases hA : allPlain X with
              | false =>
                go_wp2
                go_ret
                exact ⟨rfl, hb2⟩
              | true =>
                have HK2 : Hid (∀ j, j < k + 1 → allPlain (Ns.getD j ByteArray.empty) = true) := HK'.out hA
                clear hA HK'
                go_wp2
                go_round
                case rel => exact ⟨k + 1, by omega, by go_num, HK2⟩
                case measure => simp [intOf]; omega
            · have hkz3 : ¬ (k : Int) < (Ns.length : Int) := by omega
              have hk' : k = Ns.length := by omega
              have HPl : Hid (∀ p ∈ pairs Ns Vs, ∀ c ∈ p.1, Pl.plainB c = true) := pairs_plain Ns Vs (fun j hj => HK.out j (by omega))
              clear HK
              go_wp2_with fail
              refine (clone_any a0 b0 o0 c0 Ns w2 hN2 HnN.out (by omega)).mono ?_
              rintro e w3 ⟨a0', b0', o0', c0', rfl, hN3, hb3⟩
              have hV3 := hV2.below hb3 (fun h => (hV2.ad h).2)
              go_wp2_with fail
              refine (clone_any a1 b1 o1 c1 Vs w3 hV3 HnV.out (by omega)).mono ?_
              rintro e w4 ⟨a1', b1', o1', c1', rfl, hV4, hb4⟩
              have hN4 := hN3.below hb4 (fun h => (hN3.ad h).2)
              have hbel4 := (hb2.trans (hb3.mono hb2.size)).trans (hb4.mono (Nat.le_trans hb2.size hb3.size))
              have hT4 := (hT2.below hb3).below hb4
              clear hN2 hV2 hN3 hV3 hb2 hb3 hb4 hT2
              obtain ⟨Q, hQe⟩ : ∃ Q : Nat, Ns.length * (2 * gap.size + sep.size + 4) = Q := ⟨_, rfl⟩
              have hQb : Q ≤ 4096 * 12292 := by rw [← hQe]; exact Nat.mul_le_mul (by omega) (by omega)
              have hQi : (Ns.length : Int) * (2 * (gap.size : Int) + (sep.size : Int) + 4) = (Q : Int) := by rw [← hQe]; simp
              clear hQe
              obtain ⟨i0, hi, hz0, hz1, hz2⟩ := info_parts info5
              obtain ⟨w5, hmk, hown, hgr⟩ := run_make_own (P := Tryd.prog) w4 w4.heap.size 32 5 i0 _ 1 Tryd.underlying32 hi hz0 hz1 .i64 .i64 (2 * U + Q + sep.size) (by rw [hz2]; omega) (by unfold maxLen; omega) (Nat.le_refl _)
              rw [show (((2 * U + Q + sep.size : Nat)) : Int) = 2 * (U : Int) + (Q : Int) + (sep.size : Int) from by omega] at hmk
              have hb5 : Below w4.heap.size w4 w5 := (Below.refl _ w4).grown hgr (Nat.le_refl _) (fun k hk => by cases hk)
              have hbuf5 : Buf w5 w4.heap.size (.slice (some ⟨w4.heap.size, 0, none⟩) 0 (2 * U + Q + sep.size)) [] := hown
              clear hgr hown hz0 hz1 hz2 hi
              go_wp2_with fail
              clear hmk hQi
              have hsm : ∀ k, (Pl.built gap.data.toList sep.data.toList ((pairs Ns Vs).take k)).length ≤ 4300000 := fun k =>
                built_small gap.data.toList sep.data.toList Ns Vs P k (by rw [← Lib.size_eq, ← Lib.size_eq, ← HP.out]; congr 1; omega) (by omega) hsumN hsumV (by omega)
              have HSM : Hid (∀ k, (Pl.built gap.data.toList sep.data.toList ((pairs Ns Vs).take k)).length ≤ 4300000) := hsm
              clear hsm
              go_loopw [14, 15] (fun v i wr => ∃ k : Nat, k ≤ Ns.length ∧ i = .int .i64 k ∧ Buf wr w4.heap.size v (Pl.built gap.data.toList sep.data.toList ((pairs Ns Vs).take k)) ∧ Below w4.heap.size w4 wr) (fun _ i _ => Ns.length - (intOf i).toNat)
              case atStart => exact ⟨0, Nat.zero_le _, rfl, hbuf5, hb5⟩
              case round =>
                obtain ⟨k, hk2, rfl, hbuf, hbel⟩ := hrel
                clear hbuf5 hb5
                have hlen := HSM.out k
                obtain ⟨acc, hacc⟩ : ∃ acc, Pl.built gap.data.toList sep.data.toList ((pairs Ns Vs).take k) = acc := ⟨_, rfl⟩
                rw [hacc] at hbuf hlen
                have hBr := hbel.size
                by_cases hlt : k < Ns.length
                · have hkz3 : (k : Int) < (Ns.length : Int) := by omega
                  have hkN : (k : Int) < (Ns.length : Int) := by omega
                  have hkV : (k : Int) < (Vs.length : Int) := by omega
                  obtain ⟨rfl, hbN⟩ := hN4.ad (by omega)
                  obtain ⟨rfl, hbV⟩ := hV4.ad (by omega)
                  have hcN := (hbel.cell (p := ⟨b0', o0' + k, none⟩) hbN).trans (hN4.cell k (by omega))
                  have hcV := (hbel.cell (p := ⟨b1', o1' + k, none⟩) hbV).trans (hV4.cell k (by omega))
                  have hXs := getD_le_sumS Ns k
                  have hYs := getD_le_sumS Vs k
                  have htk := pairs_take Ns Vs k (by omega)
                  obtain ⟨X, hX⟩ : ∃ X, Ns.getD k ByteArray.empty = X := ⟨_, rfl⟩
                  obtain ⟨Y, hY⟩ : ∃ Y, Vs.getD k ByteArray.empty = Y := ⟨_, rfl⟩
                  rw [hX] at hcN hXs htk
                  rw [hY] at hcV hYs htk
                  clear hX hY
                  by_cases hk0 : (0 : Int) < (k : Int)
                  · have HS : Hid (acc ++ sep.data.toList ++ X.data.toList ++ gap.data.toList ++ [61] ++ gap.data.toList ++ Pl.quote Y.data.toList = Pl.built gap.data.toList sep.data.toList ((pairs Ns Vs).take (k + 1))) := by
                      show _ = _
                      rw [htk, Pl.built_snoc _ _ _ _ (fun e => by
                        have h0 : ((pairs Ns Vs).take k).length = 0 := by rw [e]; rfl
                        rw [List.length_take, pairs_len] at h0
                        omega), hacc]
                      simp [Pl.item]
                    clear htk hacc
                    go_wp2_with (first
                      | (at_builtin; first
                        | (refine wpList_app_str _ rfl _ _ rfl w4.heap.size _ _ rfl hbuf sep rfl (by first | omega | (simp only [List.length_append, List.length_singleton, ← Lib.size_eq]; omega)) hBr ?_; intro vA wA hvA hbA; have hzA := Nat.le_trans hBr hbA.size; have hcN := (hbA.cell (p := ⟨b0', o0' + k, none⟩) hbN).trans hcN; have hcV := (hbA.cell (p := ⟨b1', o1' + k, none⟩) hbV).trans hcV)
                        | (refine wpList_app_str _ rfl _ _ rfl w4.heap.size _ _ rfl hvA X rfl (by first | omega | (simp only [List.length_append, List.length_singleton, ← Lib.size_eq]; omega)) hzA ?_; intro vB wB hvB hbB; have hzB := Nat.le_trans hzA hbB.size; have hcN := (hbB.cell (p := ⟨b0', o0' + k, none⟩) hbN).trans hcN; have hcV := (hbB.cell (p := ⟨b1', o1' + k, none⟩) hbV).trans hcV)
                        | (refine wpList_app_str _ rfl _ _ rfl w4.heap.size _ _ rfl hvB gap rfl (by first | omega | (simp only [List.length_append, List.length_singleton, ← Lib.size_eq]; omega)) hzB ?_; intro vC wC hvC hbC; have hzC := Nat.le_trans hzB hbC.size; have hcN := (hbC.cell (p := ⟨b0', o0' + k, none⟩) hbN).trans hcN; have hcV := (hbC.cell (p := ⟨b1', o1' + k, none⟩) hbV).trans hcV)
                        | (refine wpList_app_byte _ rfl _ _ rfl w4.heap.size _ _ rfl hvC 61 rfl (by first | omega | (simp only [List.length_append, List.length_singleton, ← Lib.size_eq]; omega)) hzC ?_; intro vD wD hvD hbD; have hzD := Nat.le_trans hzC hbD.size; have hcN := (hbD.cell (p := ⟨b0', o0' + k, none⟩) hbN).trans hcN; have hcV := (hbD.cell (p := ⟨b1', o1' + k, none⟩) hbV).trans hcV)
                        | (refine wpList_app_str _ rfl _ _ rfl w4.heap.size _ _ rfl hvD gap rfl (by first | omega | (simp only [List.length_append, List.length_singleton, ← Lib.size_eq]; omega)) hzD ?_; intro vE wE hvE hbE; have hzE := Nat.le_trans hzD hbE.size; have hcN := (hbE.cell (p := ⟨b0', o0' + k, none⟩) hbN).trans hcN; have hcV := (hbE.cell (p := ⟨b1', o1' + k, none⟩) hbV).trans hcV))
                      | (go_at_call 15; refine (quoted_walk w4.heap.size _ _ Y _ hzE hvE (by first | omega | (simp only [List.length_append, List.length_singleton, ← Lib.size_eq]; omega)) (by omega)).mono ?_; rintro e wF ⟨vF, rfl, hvF, hbF⟩))
                    rw [HS.out] at hvF
                    go_roundw
                    case rel => exact ⟨k + 1, by omega, by go_num, hvF, ((((((hbel.trans hbA).trans hbB).trans hbC).trans hbD).trans hbE).trans hbF)⟩
                    case measure => simp [intOf]; omega
                  · have HS : Hid (acc ++ X.data.toList ++ gap.data.toList ++ [61] ++ gap.data.toList ++ Pl.quote Y.data.toList = Pl.built gap.data.toList sep.data.toList ((pairs Ns Vs).take (k + 1))) := by
                      show _ = _
                      obtain rfl : k = 0 := by omega
                      rw [htk, ← hacc]
                      simp [Pl.built, Pl.tailT, Pl.item]
                    clear htk hacc
                    go_wp2_with (first
                      | (at_builtin; first
                        | (refine wpList_app_str _ rfl _ _ rfl w4.heap.size _ _ rfl hbuf X rfl (by first | omega | (simp only [List.length_append, List.length_singleton, ← Lib.size_eq]; omega)) hBr ?_; intro vB wB hvB hbB; have hzB := Nat.le_trans hBr hbB.size; have hcN := (hbB.cell (p := ⟨b0', o0' + k, none⟩) hbN).trans hcN; have hcV := (hbB.cell (p := ⟨b1', o1' + k, none⟩) hbV).trans hcV)
                        | (refine wpList_app_str _ rfl _ _ rfl w4.heap.size _ _ rfl hvB gap rfl (by first | omega | (simp only [List.length_append, List.length_singleton, ← Lib.size_eq]; omega)) hzB ?_; intro vC wC hvC hbC; have hzC := Nat.le_trans hzB hbC.size; have hcN := (hbC.cell (p := ⟨b0', o0' + k, none⟩) hbN).trans hcN; have hcV := (hbC.cell (p := ⟨b1', o1' + k, none⟩) hbV).trans hcV)
                        | (refine wpList_app_byte _ rfl _ _ rfl w4.heap.size _ _ rfl hvC 61 rfl (by first | omega | (simp only [List.length_append, List.length_singleton, ← Lib.size_eq]; omega)) hzC ?_; intro vD wD hvD hbD; have hzD := Nat.le_trans hzC hbD.size; have hcN := (hbD.cell (p := ⟨b0', o0' + k, none⟩) hbN).trans hcN; have hcV := (hbD.cell (p := ⟨b1', o1' + k, none⟩) hbV).trans hcV)
                        | (refine wpList_app_str _ rfl _ _ rfl w4.heap.size _ _ rfl hvD gap rfl (by first | omega | (simp only [List.length_append, List.length_singleton, ← Lib.size_eq]; omega)) hzD ?_; intro vE wE hvE hbE; have hzE := Nat.le_trans hzD hbE.size; have hcN := (hbE.cell (p := ⟨b0', o0' + k, none⟩) hbN).trans hcN; have hcV := (hbE.cell (p := ⟨b1', o1' + k, none⟩) hbV).trans hcV))
                      | (go_at_call 15; refine (quoted_walk w4.heap.size _ _ Y _ hzE hvE (by first | omega | (simp only [List.length_append, List.length_singleton, ← Lib.size_eq]; omega)) (by omega)).mono ?_; rintro e wF ⟨vF, rfl, hvF, hbF⟩))
                    rw [HS.out] at hvF
                    go_roundw
                    case rel => exact ⟨k + 1, by omega, by go_num, hvF, (((((hbel.trans hbB).trans hbC).trans hbD).trans hbE).trans hbF)⟩
                    case measure => simp [intOf]; omega
                · have hkz3 : ¬ (k : Int) < (Ns.length : Int) := by omega
                  go_wp2_with (at_builtin; refine wpList_app_str _ rfl _ _ rfl w4.heap.size _ _ rfl hbuf sep rfl (by first | omega | (simp only [List.length_append, List.length_singleton, ← Lib.size_eq]; omega)) hBr ?_; intro vG wG hvG hbG; obtain ⟨tx, htx, hcv⟩ : ∃ tx : ByteArray, Hid (tx.data.toList = acc ++ sep.data.toList) ∧ (convert 32 9 vG).run Tryd.prog wG = .ok (.string tx) wG := ⟨⟨(acc ++ sep.data.toList).toArray⟩, rfl, run_buf_string hvG⟩)
                  have hbelG := hbel.trans hbG
                  have hTG := hT4.below hbelG
                  have htxs : tx.size ≤ 16777216 := by
                    rw [Lib.size_eq, htx.out, List.length_append, ← Lib.size_eq]; omega
                  have Hes : Hid (∀ es, Pl.Run tx.data.toList es → es = pairs Ns Vs) := by
                    intro es h
                    refine Pl.run_text HgB.out HsB.out HsB.out (pairs Ns Vs) es HPl.out ?_
                    rw [Pl.text_built]
                    rw [htx.out, ← hacc, List.take_of_length_le (by rw [pairs_len]; omega)] at h
                    exact h
                  clear hcv hvG hbuf hbG hbel hacc htx HPl HgB HsB
                  go_wp2_with fail
                  refine (ch8_walk tx wG htxs hTG).mono ?_
                  rintro e w8 ⟨es, rfl, hrun, hown8, hb8⟩
                  obtain rfl := Hes.out es hrun
                  clear hrun Hes hTG hT4
                  have hbel8 := hbelG.trans (hb8.mono hbelG.size)
                  have hN8 := hN4.below hbel8 (fun h => (hN4.ad h).2)
                  have hV8 := hV4.below hbel8 (fun h => (hV4.ad h).2)
                  have hbelW := hbel4.trans (hbel8.mono hbel4.size)
                  clear hN4 hV4 hbel4 hbel8 hbelG hb8
                  go_wp2_with fail
                  go_loopw [17, 18] (fun d i wr => ∃ k c n : Nat, k ≤ Ns.length ∧ i = .int .i64 k ∧ d = .int .i64 c ∧ c ≤ k ∧ Hid (c + Pl.lastC ((pairs Ns Vs).drop k) = Pl.lastC (pairs Ns Vs)) ∧ wr = w8.drewN n) (fun _ i _ => Ns.length - (intOf i).toNat)
                  case atStart => exact ⟨0, 0, 0, Nat.zero_le _, rfl, rfl, Nat.le_refl _, by show _ = _; simp, rfl⟩
                  case round =>
                    obtain ⟨k, c, n, hk3, rfl, rfl, hck, HC, rfl⟩ := hrel
                    by_cases hlt3 : k < Ns.length
                    · have hkz3 : (k : Int) < (Ns.length : Int) := by omega
                      have hkN : (k : Int) < (Ns.length : Int) := by omega
                      have hkV : (k : Int) < (Vs.length : Int) := by omega
                      obtain ⟨rfl, hbN⟩ := hN8.ad (by omega)
                      obtain ⟨rfl, hbV⟩ := hV8.ad (by omega)
                      have hcX := hN8.cell k (by omega)
                      have hcY := hV8.cell k (by omega)
                      have hXs := getD_le_sumS Ns k
                      have hsp := pairs_split Ns Vs k (by omega)
                      have hmk := mem_keys_drop Ns Vs (k + 1)
                      obtain ⟨X, hX⟩ : ∃ X, Ns.getD k ByteArray.empty = X := ⟨_, rfl⟩
                      have hls := lastC_step Ns Vs k (by omega) X.data.toList (by rw [hX])
                      obtain ⟨Y, hY⟩ : ∃ Y, Vs.getD k ByteArray.empty = Y := ⟨_, rfl⟩
                      rw [hX] at hcX hXs hsp
                      rw [hY] at hcY hsp
                      rw [hls] at HC
                      have HSP : Hid (pairs Ns Vs = (pairs Ns Vs).take k ++ (X.data.toList, Y.data.toList) :: (pairs Ns Vs).drop (k + 1)) := hsp
                      have HMK : Hid (∀ x, x ∈ Pl.keys ((pairs Ns Vs).drop (k + 1)) ↔ ∃ j, k + 1 ≤ j ∧ j < min Ns.length Vs.length ∧ (Ns.getD j ByteArray.empty).data.toList = x) := hmk
                      clear hX hY hls hsp hmk
                      go_wp2_with fail
                      go_loopw [19, 20] (fun l j wr => ∃ m n : Nat, k < m ∧ m ≤ Ns.length ∧ l = .bool true ∧ j = .int .i64 m ∧ wr = w8.drewN n ∧ Hid (∀ j', k < j' → j' < m → (Ns.getD j' ByteArray.empty).data.toList ≠ X.data.toList)) (fun _ j _ => Ns.length - (intOf j).toNat)
                      case atStart => exact ⟨k + 1, n, by omega, by omega, rfl, by go_num, rfl, fun j h1 h2 => absurd h1 (by omega)⟩
                      case round =>
                        obtain ⟨m, n2, hkm, hm, rfl, rfl, rfl, HM⟩ := hrel
                        have hcX2 : (w8.drewN n2).cell? ⟨b0', o0' + k, none⟩ = some (.string X) := hcX
                        have hcY2 : (w8.drewN n2).cell? ⟨b1', o1' + k, none⟩ = some (.string Y) := hcY
                        by_cases hmt : m < Ns.length
                        · have hmz : (m : Int) < (Ns.length : Int) := by omega
                          have hmN : (m : Int) < (Ns.length : Int) := by omega
                          have hcZ : (w8.drewN n2).cell? ⟨b0', o0' + m, none⟩ = some (.string (Ns.getD m ByteArray.empty)) := hN8.cell m (by omega)
                          obtain ⟨Z, hZ⟩ : ∃ Z, Ns.getD m ByteArray.empty = Z := ⟨_, rfl⟩
                          rw [hZ] at hcZ
                          have hcZ8 : w8.cell? ⟨b0', o0' + m, none⟩ = some (.string Z) := hcZ
                          have HZ : Hid (Ns.getD m ByteArray.empty = Z) := hZ
                          clear hZ
                          cases hb : (Z.toList == X.toList)
                          · have HM' : Hid (∀ j', k < j' → j' < m + 1 → (Ns.getD j' ByteArray.empty).data.toList ≠ X.data.toList) := fun j h1 h2 => by
                              by_cases e : j = m
                              · rw [e, HZ.out, ← Lib.toList_data, ← Lib.toList_data]
                                exact beq_eq_false_iff_ne.1 hb
                              · exact HM.out j h1 (by omega)
                            clear HM HZ
                            go_wp2_with fail
                            go_quiet (fail)
                            go_wp2
                            go_roundw
                            case rel => exact ⟨m + 1, _, by omega, by omega, rfl, by go_num, rfl, HM'⟩
                            case measure => simp [intOf]; omega
                          · have hin : X.data.toList ∈ Pl.keys ((pairs Ns Vs).drop (k + 1)) := (HMK.out _).2 ⟨m, by omega, by omega, by
                              rw [HZ.out, ← Lib.toList_data, ← Lib.toList_data]; exact beq_iff_eq.1 hb⟩
                            have HC' : Hid (c + Pl.lastC ((pairs Ns Vs).drop (k + 1)) = Pl.lastC (pairs Ns Vs)) := by
                              have := HC.out
                              rw [if_pos hin, Nat.zero_add] at this
                              exact this
                            clear HM HZ HC hin
                            go_wp2_with fail
                            go_quiet (fail)
                            go_wp2
                            go_roundw
                            case rel => exact ⟨k + 1, c, _, by omega, by go_num, rfl, by omega, HC', rfl⟩
                            case measure => simp [intOf]; omega
                        · have hm' : m = Ns.length := by omega
                          have hmz : ¬ (m : Int) < (Ns.length : Int) := by omega
                          have hnot : X.data.toList ∉ Pl.keys ((pairs Ns Vs).drop (k + 1)) := fun h => by
                            obtain ⟨j, h1, h2, h3⟩ := (HMK.out _).1 h
                            exact HM.out j (by omega) (by omega) h3
                          have HC' : Hid (c + 1 + Pl.lastC ((pairs Ns Vs).drop (k + 1)) = Pl.lastC (pairs Ns Vs)) := by
                            have := HC.out
                            rw [if_neg hnot] at this
                            show _ = _
                            omega
                          have hfl := Pl.fillM_last (H := Unit) ((pairs Ns Vs).take k) ((pairs Ns Vs).drop (k + 1)) X.data.toList Y.data.toList hnot (.lit (.string []))
                          rw [← HSP.out] at hfl
                          have HFL : Hid ((Pl.fillM (.map []) (pairs Ns Vs)).atKey (.string X.data.toList) (.lit (.string [] : Lit)) = (.lit (.string Y.data.toList) : DataW Unit) ∧ Maps.has (Pl.fillM (.map [] : DataW Unit) (pairs Ns Vs)) (.string X.data.toList) = true) := hfl
                          clear HM HC hnot hfl
                          have hYY : (Y.toList == Y.toList) = true := beq_self_eq_true _
                          go_wp2_with (at_lookup; refine wpList_lookup_str _ rfl _ _ rfl _ _ _ rfl (own_drewN hown8 n2) X Y rfl (by unfold maxLen; omega) HFL.out.1 true HFL.out.2 ?_)
                          go_roundw
                          case rel => exact ⟨k + 1, c + 1, _, by omega, by go_num, by go_num, by omega, HC', rfl⟩
                          case measure => simp [intOf]; omega
                    · have hkz3 : ¬ (k : Int) < (Ns.length : Int) := by omega
                      have hlen8 := fun ty => (own_drewN hown8 n).len Tryd.underlying23 ty
                      rw [Pl.size_fillM] at hlen8
                      have hcc : c = Pl.lastC (pairs Ns Vs) := by
                        have := HC.out
                        rw [List.drop_of_length_le (by rw [pairs_len]; omega)] at this
                        exact this
                      rw [← hcc] at hlen8
                      clear hcc HC
                      have hccb : ((c : Int) == (c : Int)) = true := beq_self_eq_true _
                      go_wp2
                      go_ret
                      exact ⟨rfl, below_drewN hbelW n⟩
end Go.Proofs.Qxb6606102aDoor
