import Derived.Test.Qxb6606102aDoorRbHelp
import Derived.Laws.NewBlocks
namespace Go.Proofs.Qxb6606102aDoor
open Go.RowKit Go.Maps Go.WideMaps

theorem look_run {w : World} {b n : Nat} {D : DataW Unit} (hown : w.ownsMap Tryd.prog 9 (plainElem (H := Unit) Tryd.prog 9) b n D) (key c : ByteArray) (hk : key.size ≤ maxLen)
    (hat : D.atKey (.string key.data.toList) (.lit (.string [])) = .lit (.string c.data.toList)) : (Instr.lookup 23 (.map (some b)) (.string key) false).run Tryd.prog w = .ok (.string c) w := by
  obtain ⟨v, ps, hrun, hv⟩ := hown.lookup law Tryd.underlying23 (zero9 w) (zd := .lit (.string [])) (zp := []) (plainElem_string Tryd.underlying9 (by decide)) (key := .string key) (kl := .string key.data.toList) (keyOf_string_mk Tryd.underlying9 hk)
  obtain ⟨s, rfl, hz, _⟩ := plainElem_string_inv Tryd.underlying9 hv
  rw [hat] at hz
  have e : s = c := bytes_ext (by simp only [Prod.mk.injEq, DataW.lit.injEq, Lit.string.injEq] at hz; exact hz.1.symm)
  rw [hrun, e]

theorem fold_c (p : Bool) (s : ByteArray) (w : World) (hs : s.data.toList = Pl.scheme p) :
    Calls Tryd.prog 27 #[.string s, .string ⟨#[66, 101, 97, 114, 101, 114]⟩] w fun e w' => e = .returned (.bool true) ∧ w' = w := by
  have h := Any.strings_EqualFold Tryd.lays164 s ⟨#[66, 101, 97, 114, 101, 114]⟩ w (by rw [Lib.size_eq, hs]; cases p <;> decide) (by rw [hs]; exact Pl.ascii_scheme p) (Pl.ascii_scheme false)
  have e : Lib.equalFold s.data.toList (⟨#[66, 101, 97, 114, 101, 114]⟩ : ByteArray).data.toList = true := by rw [hs]; exact Pl.fold_scheme p
  rw [e] at h
  exact h
theorem trimSuf_c (s : ByteArray) (w : World) (hs : s.size ≤ 16777216) :
    Calls Tryd.prog 28 #[.string s, .string ⟨#[47, 46, 100, 101, 102, 97, 117, 108, 116]⟩] w fun e w' => e = .returned (.string (trimDef s)) ∧ w' = w :=
  Any.strings_TrimSuffix Tryd.lays102 s ⟨#[47, 46, 100, 101, 102, 97, 117, 108, 116]⟩ w (by omega)

theorem cutHead_e (p u : Bool) (a r s h1 : ByteArray) (w : World) (hT : Tabs w) (hs : h1.size < 4294967281) (hh : h1.data.toList = Pl.header p u a.data.toList r.data.toList s.data.toList) :
    Calls Tryd.prog 23 #[.string h1, .string ⟨#[32]⟩] w fun e w' => ∃ sc rt : ByteArray, e = .returned (.tuple #[.string sc, .string rt, .bool true]) ∧ Hid (sc.data.toList = Pl.scheme p) ∧ Hid (rt.data.toList = Pl.restT u a.data.toList r.data.toList s.data.toList) ∧ rt.size ≤ h1.size ∧ Below w.heap.size w w' := by
  refine (cut_c h1 ⟨#[32]⟩ w hT hs).mono fun e w' ⟨he, hb⟩ => ⟨⟨(Pl.scheme p).toArray⟩, ⟨(Pl.restT u a.data.toList r.data.toList s.data.toList).toArray⟩, ?_, rfl, rfl, ?_, hb⟩
  · have e2 : Lib.cut h1.data.toList (⟨#[32]⟩ : ByteArray).data.toList = (Pl.scheme p, Pl.restT u a.data.toList r.data.toList s.data.toList, true) := by rw [hh]; exact Pl.header_cut p u _ _ _
    rw [e2] at he
    exact he
  · rw [Lib.size_eq, Lib.size_eq, hh]; unfold Pl.header; simp; omega

theorem ne_of_beq {x : ByteArray} (h : (x.toList == []) = false) : x.data.toList ≠ [] := by rw [← Lib.toList_data]; exact beq_eq_false_iff_ne.1 h
theorem nil_of_beq {x : ByteArray} (h : (x.toList == []) = true) : x.data.toList = [] := by rw [← Lib.toList_data]; exact beq_iff_eq.1 h

/-- What parseChallenge answers at the one header. -/
def PC (a r s A R S : ByteArray) (B : Bool) : Prop :=
  (r.data.toList ≠ [] ∧ A = a ∧ R = r ∧ S.data.toList = r.data.toList ++ [47, 46, 100, 101, 102, 97, 117, 108, 116] ∧ B = true) ∨
  (r.data.toList = [] ∧ (trimDef s).data.toList ≠ [] ∧ A = a ∧ R = trimDef s ∧ S = s ∧ B = true) ∨
  (r.data.toList = [] ∧ (trimDef s).data.toList = [] ∧ A = ByteArray.empty ∧ R = ByteArray.empty ∧ S = ByteArray.empty ∧ B = false)

set_option maxRecDepth 100000 in
set_option maxHeartbeats 2000000 in
theorem parse_walk (b : Nat) (h : ByteArray) (p u : Bool) (a r s : ByteArray) (w : World) (hT : Tabs w) (hb : b < w.heap.size) (hc : w.cell? ⟨b, 0, none⟩ = some (.string h))
    (hh : Hid (h.data.toList = Pl.header p u a.data.toList r.data.toList s.data.toList)) (hs : h.size ≤ 16777216) (hsr : r.size ≤ 1048576) (hss : s.size ≤ 1048576) :
    Calls Tryd.prog 21 #[.slice (some ⟨b, 0, none⟩) 1 1] w fun e w' => ∃ A R S B, e = .returned (.tuple #[.agg #[.string A, .string R, .string S], .bool B]) ∧ PC a r s A R S B ∧ Below w.heap.size w w' := by
  go_enter Tryd.func21, Tryd.ntmps21
  go_wp2_with fail
  refine wp_loop_rounds 2 ?_
  rw [rounds_succ]
  go_wp2_with fail
  have hbA := (Below.refl w.heap.size w).alloc (Nat.le_refl _) (.cells #[.string ⟨#[]⟩, .string ⟨#[]⟩, .string ⟨#[]⟩] 38)
  refine (trimSpace_e h _ (by omega) (hT.below hbA)).mono ?_
  rintro e w1 ⟨h1, rfl, H1, hs1, hb1⟩
  have HH1 : Hid (h1.data.toList = Pl.header p u a.data.toList r.data.toList s.data.toList) := by
    show _ = _
    rw [H1.out, hh.out, Pl.header_trim]
  have hT1 := (hT.below hbA).below hb1
  clear hh H1
  go_wp2_with fail
  refine (cutHead_e p u a r s h1 w1 hT1 (by omega) HH1.out).mono ?_
  rintro e w2 ⟨sc, rt, rfl, Hsc, Hrt, hrs, hb2⟩
  clear HH1
  have hT2 := hT1.below hb2
  go_wp2_with fail
  refine (fold_c p sc w2 Hsc.out).mono ?_
  rintro e w3 ⟨rfl, hw⟩
  rw [hw]
  clear hw
  go_wp2_with fail
  refine (ch_walk rt w2 (by omega) hT2).mono ?_
  rintro e w4 ⟨es, rfl, hrun, hown, hb4⟩
  have hes := Pl.run_three u _ _ _ es (by rw [← Hrt.out]; exact hrun)
  subst hes
  clear hrun
  have hbel : Below (w.heap.size + 1) (w.alloc (.cells #[.string ⟨#[]⟩, .string ⟨#[]⟩, .string ⟨#[]⟩] 38)) w4 := by
    have e1 : (w.alloc (.cells #[.string ⟨#[]⟩, .string ⟨#[]⟩, .string ⟨#[]⟩] 38)).heap.size = w.heap.size + 1 := by simp
    rw [← e1]
    exact (hb1.trans (hb2.mono hb1.size)).trans (hb4.mono (Nat.le_trans hb1.size hb2.size))
  have hlt4 : w.heap.size < w4.heap.size := by have := hbel.size; simp at this; omega
  have hc0 : w4.cell? ⟨w.heap.size, 0, none⟩ = some (.string ⟨#[]⟩) := (hbel.cell (Nat.lt_succ_self _)).trans (by simp)
  have hc1 : w4.cell? ⟨w.heap.size, 1, none⟩ = some (.string ⟨#[]⟩) := (hbel.cell (Nat.lt_succ_self _)).trans (by simp)
  have hc2 : w4.cell? ⟨w.heap.size, 2, none⟩ = some (.string ⟨#[]⟩) := (hbel.cell (Nat.lt_succ_self _)).trans (by simp)
  have hf0 : w4.frozen? ⟨w.heap.size, 0, none⟩ = false := (hbel.frozen (Nat.lt_succ_self _)).trans (by simp)
  have hf1 : w4.frozen? ⟨w.heap.size, 1, none⟩ = false := (hbel.frozen (Nat.lt_succ_self _)).trans (by simp)
  have hf2 : w4.frozen? ⟨w.heap.size, 2, none⟩ = false := (hbel.frozen (Nat.lt_succ_self _)).trans (by simp)
  have hbw : Below w.heap.size w w4 := hbA.trans (hbel.mono (Nat.le_succ _))
  clear hb1 hb2 hb4 hbA hT1 hT2 hT
  have hlook := fun z => Pl.three_look (H := Unit) u a.data.toList r.data.toList s.data.toList z
  obtain ⟨T, hTd⟩ : ∃ T, trimDef s = T := ⟨_, rfl⟩
  obtain ⟨y, hy, hadd⟩ : ∃ y : ByteArray, y.data.toList = r.data.toList ++ [47, 46, 100, 101, 102, 97, 117, 108, 116] ∧ ∀ W, (Op.stringOp .add r ⟨#[47, 46, 100, 101, 102, 97, 117, 108, 116]⟩).run Tryd.prog W = .ok (.string y) W :=
    ⟨_, by rw [ByteArray.data_append]; simp, fun W => run_string_add_sum W r ⟨#[47, 46, 100, 101, 102, 97, 117, 108, 116]⟩ (by rw [show (⟨#[47, 46, 100, 101, 102, 97, 117, 108, 116]⟩ : ByteArray).size = 9 from rfl]; omega)⟩
  cases u
  · have l1 := look_run hown ⟨#[97, 117, 116, 104, 111, 114, 105, 122, 97, 116, 105, 111, 110]⟩ a (by decide) (hlook _).1
    have l2 := look_run hown ⟨#[114, 101, 115, 111, 117, 114, 99, 101]⟩ r (by decide) (hlook _).2.2.1
    have l3 := look_run hown ⟨#[115, 99, 111, 112, 101]⟩ s (by decide) (hlook _).2.2.2
    have l4 := fun o => look_run (hown.alloc o) ⟨#[97, 117, 116, 104, 111, 114, 105, 122, 97, 116, 105, 111, 110, 95, 117, 114, 105]⟩ ⟨#[]⟩ (by decide) (hlook _).2.1
    clear hlook hown
    cases ha : (a.toList == [])
    · skip
      cases hr : (r.toList == [])
      · have HR : Hid (PC a r s a r y true) := Or.inl ⟨ne_of_beq hr, rfl, rfl, hy, rfl⟩
        go_wp2
        refine bodyPost_ret (v := .tuple #[.agg #[.string a, .string r, .string y], .bool true]) (by simp [results, Tryd.results21, go_sem, hc0, hc1, hc2, hlt4]) rfl ?_
        exact ⟨a, r, y, true, rfl, HR.out, (((hbw.setCell (Nat.le_refl _) _).setCell (Nat.le_refl _) _).setCell (Nat.le_refl _) _).alloc (Nat.le_of_lt (by simpa using hlt4)) _⟩
      · cases ht : (T.toList == [])
        · have HR : Hid (PC a r s a T s true) := Or.inr (Or.inl ⟨nil_of_beq hr, by rw [hTd]; exact ne_of_beq ht, rfl, hTd.symm, rfl, rfl⟩)
          go_wp2_with (go_at_call 28; refine (trimSuf_c s _ (by omega)).mono ?_; rintro e w5 ⟨rfl, hw⟩; rw [hw, hTd])
          refine bodyPost_ret (v := .tuple #[.agg #[.string a, .string T, .string s], .bool true]) (by simp [results, Tryd.results21, go_sem, hc0, hc1, hc2, hlt4]) rfl ?_
          exact ⟨a, T, s, true, rfl, HR.out, (((hbw.setCell (Nat.le_refl _) _).setCell (Nat.le_refl _) _).setCell (Nat.le_refl _) _).alloc (Nat.le_of_lt (by simpa using hlt4)) _⟩
        · have HR : Hid (PC a r s ⟨#[]⟩ ⟨#[]⟩ ⟨#[]⟩ false) := Or.inr (Or.inr ⟨nil_of_beq hr, by rw [hTd]; exact nil_of_beq ht, rfl, rfl, rfl, rfl⟩)
          go_wp2_with (go_at_call 28; refine (trimSuf_c s _ (by omega)).mono ?_; rintro e w5 ⟨rfl, hw⟩; rw [hw, hTd])
          rw [rounds_succ]
          go_wp2
          refine bodyPost_ret (v := .tuple #[.agg #[.string ⟨#[]⟩, .string ⟨#[]⟩, .string ⟨#[]⟩], .bool false]) (by simp [results, Tryd.results21, go_sem, hc0, hc1, hc2, hlt4]) rfl ?_
          exact ⟨⟨#[]⟩, ⟨#[]⟩, ⟨#[]⟩, false, rfl, HR.out, (((hbw.setCell (Nat.le_refl _) _).setCell (Nat.le_refl _) _).setCell (Nat.le_refl _) _).alloc (Nat.le_of_lt (by simpa using hlt4)) _⟩
    · have HAE : Hid ((⟨#[]⟩ : ByteArray) = a) := bytes_ext (nil_of_beq ha).symm
      cases hr : (r.toList == [])
      · have HR : Hid (PC a r s ⟨#[]⟩ r y true) := Or.inl ⟨ne_of_beq hr, HAE.out, rfl, hy, rfl⟩
        go_wp2
        refine bodyPost_ret (v := .tuple #[.agg #[.string ⟨#[]⟩, .string r, .string y], .bool true]) (by simp [results, Tryd.results21, go_sem, hc0, hc1, hc2, hlt4]) rfl ?_
        exact ⟨⟨#[]⟩, r, y, true, rfl, HR.out, (((hbw.setCell (Nat.le_refl _) _).setCell (Nat.le_refl _) _).setCell (Nat.le_refl _) _).alloc (Nat.le_of_lt (by simpa using hlt4)) _⟩
      · cases ht : (T.toList == [])
        · have HR : Hid (PC a r s ⟨#[]⟩ T s true) := Or.inr (Or.inl ⟨nil_of_beq hr, by rw [hTd]; exact ne_of_beq ht, HAE.out, hTd.symm, rfl, rfl⟩)
          go_wp2_with (go_at_call 28; refine (trimSuf_c s _ (by omega)).mono ?_; rintro e w5 ⟨rfl, hw⟩; rw [hw, hTd])
          refine bodyPost_ret (v := .tuple #[.agg #[.string ⟨#[]⟩, .string T, .string s], .bool true]) (by simp [results, Tryd.results21, go_sem, hc0, hc1, hc2, hlt4]) rfl ?_
          exact ⟨⟨#[]⟩, T, s, true, rfl, HR.out, (((hbw.setCell (Nat.le_refl _) _).setCell (Nat.le_refl _) _).setCell (Nat.le_refl _) _).alloc (Nat.le_of_lt (by simpa using hlt4)) _⟩
        · have HR : Hid (PC a r s ⟨#[]⟩ ⟨#[]⟩ ⟨#[]⟩ false) := Or.inr (Or.inr ⟨nil_of_beq hr, by rw [hTd]; exact nil_of_beq ht, rfl, rfl, rfl, rfl⟩)
          go_wp2_with (go_at_call 28; refine (trimSuf_c s _ (by omega)).mono ?_; rintro e w5 ⟨rfl, hw⟩; rw [hw, hTd])
          rw [rounds_succ]
          go_wp2
          refine bodyPost_ret (v := .tuple #[.agg #[.string ⟨#[]⟩, .string ⟨#[]⟩, .string ⟨#[]⟩], .bool false]) (by simp [results, Tryd.results21, go_sem, hc0, hc1, hc2, hlt4]) rfl ?_
          exact ⟨⟨#[]⟩, ⟨#[]⟩, ⟨#[]⟩, false, rfl, HR.out, (((hbw.setCell (Nat.le_refl _) _).setCell (Nat.le_refl _) _).setCell (Nat.le_refl _) _).alloc (Nat.le_of_lt (by simpa using hlt4)) _⟩
  · have l1 := look_run hown ⟨#[97, 117, 116, 104, 111, 114, 105, 122, 97, 116, 105, 111, 110]⟩ ⟨#[]⟩ (by decide) (hlook _).1
    have l2 := look_run hown ⟨#[114, 101, 115, 111, 117, 114, 99, 101]⟩ r (by decide) (hlook _).2.2.1
    have l3 := look_run hown ⟨#[115, 99, 111, 112, 101]⟩ s (by decide) (hlook _).2.2.2
    have l4 := fun o => look_run (hown.alloc o) ⟨#[97, 117, 116, 104, 111, 114, 105, 122, 97, 116, 105, 111, 110, 95, 117, 114, 105]⟩ a (by decide) (hlook _).2.1
    clear hlook hown
    cases hr : (r.toList == [])
    · have HR : Hid (PC a r s a r y true) := Or.inl ⟨ne_of_beq hr, rfl, rfl, hy, rfl⟩
      go_wp2
      refine bodyPost_ret (v := .tuple #[.agg #[.string a, .string r, .string y], .bool true]) (by simp [results, Tryd.results21, go_sem, hc0, hc1, hc2, hlt4]) rfl ?_
      exact ⟨a, r, y, true, rfl, HR.out, (((hbw.setCell (Nat.le_refl _) _).setCell (Nat.le_refl _) _).setCell (Nat.le_refl _) _).alloc (Nat.le_of_lt (by simpa using hlt4)) _⟩
    · cases ht : (T.toList == [])
      · have HR : Hid (PC a r s a T s true) := Or.inr (Or.inl ⟨nil_of_beq hr, by rw [hTd]; exact ne_of_beq ht, rfl, hTd.symm, rfl, rfl⟩)
        go_wp2_with (go_at_call 28; refine (trimSuf_c s _ (by omega)).mono ?_; rintro e w5 ⟨rfl, hw⟩; rw [hw, hTd])
        refine bodyPost_ret (v := .tuple #[.agg #[.string a, .string T, .string s], .bool true]) (by simp [results, Tryd.results21, go_sem, hc0, hc1, hc2, hlt4]) rfl ?_
        exact ⟨a, T, s, true, rfl, HR.out, (((hbw.setCell (Nat.le_refl _) _).setCell (Nat.le_refl _) _).setCell (Nat.le_refl _) _).alloc (Nat.le_of_lt (by simpa using hlt4)) _⟩
      · have HR : Hid (PC a r s ⟨#[]⟩ ⟨#[]⟩ ⟨#[]⟩ false) := Or.inr (Or.inr ⟨nil_of_beq hr, by rw [hTd]; exact nil_of_beq ht, rfl, rfl, rfl, rfl⟩)
        go_wp2_with (go_at_call 28; refine (trimSuf_c s _ (by omega)).mono ?_; rintro e w5 ⟨rfl, hw⟩; rw [hw, hTd])
        rw [rounds_succ]
        go_wp2
        refine bodyPost_ret (v := .tuple #[.agg #[.string ⟨#[]⟩, .string ⟨#[]⟩, .string ⟨#[]⟩], .bool false]) (by simp [results, Tryd.results21, go_sem, hc0, hc1, hc2, hlt4]) rfl ?_
        exact ⟨⟨#[]⟩, ⟨#[]⟩, ⟨#[]⟩, false, rfl, HR.out, (((hbw.setCell (Nat.le_refl _) _).setCell (Nat.le_refl _) _).setCell (Nat.le_refl _) _).alloc (Nat.le_of_lt (by simpa using hlt4)) _⟩
end Go.Proofs.Qxb6606102aDoor
