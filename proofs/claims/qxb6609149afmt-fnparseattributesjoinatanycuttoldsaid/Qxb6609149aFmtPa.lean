import Derived.Test.Qxb6609149aFmtHelp
namespace Go.Proofs.Qxb6609149aFmt
open Go.RowKit Go.Extern.Stop Go.Stop Go.Extern

/-- What ParseAttributes leaves. -/
def PaOut (s : ByteArray) (w : World) (e : Ending) (w' : World) : Prop :=
  Below w.heap.size w w' ∧
  ((Acc (segs s) ∧ e = .returned (.tuple #[.slice (some ⟨w.heap.size, 0, none⟩) (segs s).length (segs s).length, .nilIface]) ∧ w.heap.size < w'.heap.size ∧
      ∀ j, j < (segs s).length → w'.cell? ⟨w.heap.size, j, none⟩ = some (.string ((segs s).getD j ByteArray.empty))) ∨
   (¬ Acc (segs s) ∧ ∃ p : Value, e = .returned (.tuple #[.slice none 0 0, .iface 42 p])))

theorem bad_len {Xs : List ByteArray} (h : (8 : Int) < (Xs.length : Int)) : ¬ Acc Xs := fun ⟨h1, _, _⟩ => by omega
theorem bad_good {Xs : List ByteArray} (k : Nat) (hk : k < Xs.length) {X : ByteArray} (hX : Xs.getD k ByteArray.empty = X) (h : ¬ good X) : ¬ Acc Xs := fun ⟨_, h2, _⟩ => h (hX ▸ h2 _ (getD_mem Xs k hk))

set_option linter.unusedSimpArgs false in
set_option maxRecDepth 100000 in
set_option maxHeartbeats 4000000 in
theorem pa_walk (F : Interp) (s : ByteArray) (w : World) (hs : s.size ≤ 16777216) (hM : MaxL w) (hF : F.answers w.tape) :
    Calls Tryf.prog 5 #[.string s] w fun e w' => PaOut s w e w' := by
  have hn0 := segs_pos s
  go_enter Tryf.func5, Tryf.ntmps5
  go_wp2_with fail
  refine (split_c s w (by omega) hM).mono ?_
  rintro e w1 ⟨rfl, hc, hb1⟩
  obtain ⟨Xs, hXs⟩ : ∃ Xs, segs s = Xs := ⟨_, rfl⟩
  have hsz1 : w.heap.size < w1.heap.size := by rw [hXs] at hn0; rw [hXs] at hc; exact cell_lt (hc 0 hn0)
  have HXS : Hid (segs s = Xs) := hXs
  rw [hXs] at hc hn0 ⊢
  clear hXs
  have HC : Hid (∀ j, j < Xs.length → w1.cell? ⟨w.heap.size, j, none⟩ = some (.string (Xs.getD j ByteArray.empty))) := hc
  clear hc
  by_cases h8 : (8 : Int) < (Xs.length : Int)
  · have HR : Hid (¬ Acc (segs s)) := by show ¬ _; rw [HXS.out]; exact bad_len h8
    have hFa : F.answers w1.tape := by rw [hb1.tape]; exact hF
    go_wp2_with (go_at_call 8; refine (errorf0 F s (Xs.length : Int) 8 w1.heap.size _ (by exact hFa) (by simp) (by simp) (by simp)).mono ?_; rintro e w2 ⟨⟨pp, rfl⟩, hb2⟩)
    go_ret2
    have hA := hb1.alloc hb1.size (.cells #[.iface 9 (.string s), .iface 3 (.int .i64 (Xs.length : Int)), .iface 3 (.int .i64 8)] 20)
    exact ⟨hA.trans (hb2.mono hA.size), Or.inr ⟨HR.out, pp, rfl⟩⟩
  · go_wp2_with fail
    go_loopw [22] (fun i wr => ∃ k : Nat, k ≤ Xs.length ∧ i = .int .i64 k ∧ Below w1.heap.size w1 wr ∧ Hid (∀ j, j < k → good (Xs.getD j ByteArray.empty) ∧ Xs.getD j ByteArray.empty ∉ Xs.take j)) (fun i _ => Xs.length - (intOf i).toNat)
    case atStart => exact ⟨0, Nat.zero_le _, rfl, Below.refl _ _, fun j hj => absurd hj (Nat.not_lt_zero _)⟩
    case round =>
      obtain ⟨k, hk, rfl, hbel, HK⟩ := hrel
      have hbw := hb1.trans (hbel.mono hb1.size)
      have HCR : Hid (∀ j, j < Xs.length → wr.cell? ⟨w.heap.size, j, none⟩ = some (.string (Xs.getD j ByteArray.empty))) := fun j hj => (hbel.cell hsz1).trans (HC.out j hj)
      have hFa : F.answers wr.tape := by rw [hbw.tape]; exact hF
      by_cases hlt : k < Xs.length
      · have hkz : (k : Int) < (Xs.length : Int) := by omega
        have hck := HCR.out k hlt
        obtain ⟨X, hX⟩ : ∃ X, Xs.getD k ByteArray.empty = X := ⟨_, rfl⟩
        rw [hX] at hck
        have HX : Hid (Xs.getD k ByteArray.empty = X) := hX
        clear hX
        cases he : (X.toList == [])
        · have hne : X.data.toList ≠ [] := by rw [← Lib.toList_data]; exact beq_eq_false_iff_ne.1 he
          go_wp2_with fail
          refine (idxFunc_c X wr).mono ?_
          rintro e w2 ⟨rfl, hb2⟩
          have hbw2 := hbw.trans (hb2.mono hbw.size)
          have hbel2 := hbel.trans (hb2.mono hbel.size)
          have hFa2 : F.answers w2.tape := by rw [hbw2.tape]; exact hF
          have HCR2 : Hid (∀ j, j < Xs.length → w2.cell? ⟨w.heap.size, 0 + j, none⟩ = some (.string (Xs.getD j ByteArray.empty))) := fun j hj => by rw [Nat.zero_add]; exact (hbel2.cell hsz1).trans (HC.out j hj)
          obtain ⟨I, hI⟩ : ∃ I, Lib.idxFunc nn true X = I := ⟨_, rfl⟩
          rw [hI]
          by_cases hi0 : (0 : Int) ≤ I
          · have HR : Hid (¬ Acc (segs s)) := by
              show ¬ _
              rw [HXS.out]
              exact bad_good k hlt HX.out (fun hg => by have := hg.2; rw [hI] at this; omega)
            clear hI hne
            go_wp2_with (go_at_call 8; refine (errorf2 F s X w2.heap.size _ (by exact hFa2) (by simp) (by simp)).mono ?_; rintro e w3 ⟨⟨pp, rfl⟩, hb3⟩)
            go_ret2
            have hA := hbw2.alloc hbw2.size (.cells #[.iface 9 (.string s), .iface 9 (.string X)] 20)
            exact ⟨hA.trans (hb3.mono hA.size), Or.inr ⟨HR.out, pp, rfl⟩⟩
          · have HG : Hid (good X) := ⟨hne, by rw [hI]; omega⟩
            clear hI hne
            go_wp2_with fail
            refine (contains_c w.heap.size k Xs.length Xs X w2 hk (by omega) HCR2.out).mono ?_
            rintro e w3 ⟨rfl, hw⟩
            rw [hw]
            clear hw
            cases hcn : Lib.containsS (Xs.take k) X
            · have hnm : X ∉ Xs.take k := fun hm => by rw [(Lib.containsS_iff _ _).2 hm] at hcn; cases hcn
              have HK' : Hid (∀ j, j < k + 1 → good (Xs.getD j ByteArray.empty) ∧ Xs.getD j ByteArray.empty ∉ Xs.take j) := fun j hj => by
                by_cases ej : j = k
                · rw [ej, HX.out]; exact ⟨HG.out, hnm⟩
                · exact HK.out j (by omega)
              clear hcn hnm HK
              go_wp2
              go_roundw
              case rel => exact ⟨k + 1, by omega, by go_num, hbel2, HK'⟩
              case measure => simp [intOf]; omega
            · have HR : Hid (¬ Acc (segs s)) := by
                show ¬ _
                rw [HXS.out]
                exact fun ha => not_nodup_of_take Xs k hlt (by rw [HX.out]; exact (Lib.containsS_iff _ _).1 hcn) ha.2.2
              clear hcn
              go_wp2_with (go_at_call 8; refine (errorf3 F s X w2.heap.size _ (by exact hFa2) (by simp) (by simp)).mono ?_; rintro e w3 ⟨⟨pp, rfl⟩, hb3⟩)
              go_ret2
              have hA := hbw2.alloc hbw2.size (.cells #[.iface 9 (.string s), .iface 9 (.string X)] 20)
              exact ⟨hA.trans (hb3.mono hA.size), Or.inr ⟨HR.out, pp, rfl⟩⟩
        · have HR : Hid (¬ Acc (segs s)) := by
            show ¬ _
            rw [HXS.out]
            exact bad_good k hlt HX.out (fun hg => hg.1 (by rw [← Lib.toList_data]; exact beq_iff_eq.1 he))
          go_wp2_with (go_at_call 8; refine (errorf1 F s ((k : Int) + 1) wr.heap.size _ (by exact hFa) (by simp) (by simp)).mono ?_; rintro e w3 ⟨⟨pp, rfl⟩, hb3⟩)
          go_ret2
          have hA := hbw.alloc hbw.size (.cells #[.iface 9 (.string s), .iface 3 (.int .i64 ((k : Int) + 1))] 20)
          exact ⟨hA.trans (hb3.mono hA.size), Or.inr ⟨HR.out, pp, rfl⟩⟩
      · have hk' : k = Xs.length := by omega
        have hkz : ¬ (k : Int) < (Xs.length : Int) := by omega
        have HR : Hid (Acc (segs s)) := by
          show Acc _
          rw [HXS.out]
          refine ⟨by omega, fun X hX => ?_, nodup_of_take Xs fun j hj => (HK.out j (by omega)).2⟩
          obtain ⟨j, hj, rfl⟩ := exists_getD hX
          exact (HK.out j (by omega)).1
        clear HK
        go_wp2
        go_ret2
        refine ⟨hbw, Or.inl ⟨HR.out, ?_, Nat.lt_of_lt_of_le hsz1 hbel.size, ?_⟩⟩
        · rw [HXS.out]; rfl
        · rw [HXS.out]; exact HCR.out
end Go.Proofs.Qxb6609149aFmt
