import Derived.Test.Qxb6606102aDoorShelf
import Derived.Test.Qxb6606102aDoorPvWalk
import Derived.Test.Qxb6606102aDoorIdxWalk
import Derived.WalkKit
import Derived.WalkSpells
import Derived.WalkLawsBesides
import Derived.Maps.OwnSet
import Derived.Maps.RangeWalk
import Derived.Deep.LoopGhost
namespace Go.Proofs
open Go.Shelf
theorem Tryd.extra159 : Builder.Extra Tryd.prog Tryd.lays159_ren := {
  sizeBuilder := by kernel_rfl
  liesBuilder := by kernel_rfl
  t5 := Tryd.lays159.t5
  a5 := Tryd.lays159.a5
  z5 := Tryd.lays159.z5
  v5 := Tryd.lays159.v5
  infoByte := by kernel_rfl
  cellsByte := by kernel_rfl
  sizeByte := by kernel_rfl
  neB5 := by decide }
namespace Qxb6606102aDoor
open Go.RowKit Go.Maps Go.WideMaps

/-- The library's variables as their initialisers lay them; MaxLen holds some int. -/
structure Tabs (w : World) : Prop where
  space : Lib.TabIs Tryd.prog w "strings.asciiSpace" .u8 Lib.asciiSpaceTab
  u8 : Lib.Utf8Tabs 6 7 w
  white : Lib.WhiteTab 1 w
  cases : Lib.CaseVar 4 Lib.caseA w
  maxLen : ∃ m, w.cell? ⟨5, 0, none⟩ = some (.int .i64 m)

theorem cell_lt {w : World} {a : Addr} {v : Value} (h : w.cell? a = some v) : a.block < w.heap.size := by
  rcases Nat.lt_or_ge a.block w.heap.size with h' | h'
  · exact h'
  · simp [World.cell?, Array.getElem?_eq_none h'] at h

theorem tab_below {w w' : World} {zs : List Int} (h : Lib.TabIs Tryd.prog w "strings.asciiSpace" .u8 zs) (hb : Below w.heap.size w w') : Lib.TabIs Tryd.prog w' "strings.asciiSpace" .u8 zs := by
  have hgn : Tryd.prog.globalNamed "strings.asciiSpace" = some 0 := by kernel_rfl
  unfold Lib.TabIs World.var? at h ⊢
  rw [hgn] at h ⊢
  simp only [Option.bind_some] at h ⊢
  have hlt : 0 < w.heap.size := by
    rcases Nat.lt_or_ge 0 w.heap.size with h' | h'
    · exact h'
    · rw [Array.getElem?_eq_none h'] at h; cases h
  rw [hb.block 0 hlt]
  exact h

theorem Tabs.below {w w' : World} (h : Tabs w) (hb : Below w.heap.size w w') : Tabs w' :=
  ⟨tab_below h.space hb, Utf8Tabs_below h.u8 hb, WhiteTab_below h.white hb, Lib.CaseVar_below h.cases hb, by
    obtain ⟨m, hm⟩ := h.maxLen
    exact ⟨m, (hb.cell (cell_lt hm)).trans hm⟩⟩

theorem trimLeft_c (s cs : ByteArray) (w : World) (hcs : cs.size < 4294967281) (ha : ∀ (j : Nat) b, cs.data.toList[j]? = some b → b.toNat < 128) :
    Calls Tryd.prog 22 #[.string s, .string cs] w fun e w' => e = .returned (.string ⟨(Lib.trimLeftS s.data.toList cs.data.toList).toArray⟩) ∧ Below w.heap.size w w' :=
  Any.strings_TrimLeft_laid Tryd.lays161 (by kernel_rfl) s cs w hcs ha
theorem cut_c (s sep : ByteArray) (w : World) (hT : Tabs w) (hs : s.size < 4294967281) :
    Calls Tryd.prog 23 #[.string s, .string sep] w fun e w' => e = .returned (.tuple #[.string ⟨(Lib.cut s.data.toList sep.data.toList).1.toArray⟩, .string ⟨(Lib.cut s.data.toList sep.data.toList).2.1.toArray⟩, .bool (Lib.cut s.data.toList sep.data.toList).2.2]) ∧ Below w.heap.size w w' := by
  obtain ⟨m, hm⟩ := hT.maxLen
  exact (Any.strings_Cut Tryd.lays145 s sep m w hs hm).mono fun e w' ⟨he, n, hw⟩ => ⟨he, hw ▸ ⟨rfl, rfl, rfl, Nat.le_refl _, fun _ _ => rfl⟩⟩
theorem trimSpace_c (s : ByteArray) (w : World) (hs : s.size ≤ 9223372036854775807) (hT : Tabs w) :
    Calls Tryd.prog 26 #[.string s] w fun e w' => e = .returned (.string ⟨(Lib.trimSpaceD s.data.toList).toArray⟩) ∧ Below w.heap.size w w' :=
  Any.strings_TrimSpace_any Tryd.lays163 ⟨by kernel_rfl⟩ s w hs hT.space hT.u8 hT.white
theorem lower_c (s : ByteArray) (w : World) (hs : s.size < 35184372088832) (hT : Tabs w) :
    Calls Tryd.prog 25 #[.string s] w fun e w' => e = .returned (.string ⟨(Lib.toLowerD s.data.toList).toArray⟩) ∧ Below w.heap.size w w' :=
  Any.strings_ToLower_any Tryd.lays159 Tryd.extra159 s w hs hT.cases hT.u8

theorem pvLib : PvLib := {
  hasPrefix := fun s p w => Any.strings_HasPrefix Tryd.lays99 s p w
  writeByte := fun B b bs c w h h1 h2 => Any.Builder_WriteByte (P := Tryd.prog) (ρ := Tryd.lays159_ren) { Tryd.lays159 with } Tryd.extra159 B b bs c w h h1 h2
  string := fun B b l w h h2 => Any.Builder_String_any (P := Tryd.prog) (ρ := Tryd.lays159_ren) { Tryd.lays159 with } Tryd.extra159 B b l w h h2
  indexAny := indexAny_c }

theorem law : Keyed Tryd.prog 9 := string_keyed Tryd.underlying9

/-! the same, the strings under names -/
theorem size_arr (l : List UInt8) : (⟨l.toArray⟩ : ByteArray).size = l.length := by rw [Lib.size_eq]
theorem trimLeft_e (s cs : ByteArray) (w : World) (hcs : cs.size < 4294967281) (ha : ∀ (j : Nat) b, cs.data.toList[j]? = some b → b.toNat < 128) :
    Calls Tryd.prog 22 #[.string s, .string cs] w fun e w' => ∃ r : ByteArray, e = .returned (.string r) ∧ Hid (r.data.toList = Lib.trimLeftS s.data.toList cs.data.toList) ∧ r.size ≤ s.size ∧ Below w.heap.size w w' :=
  (trimLeft_c s cs w hcs ha).mono fun e w' ⟨he, hb⟩ => ⟨_, he, rfl, by rw [size_arr, Lib.size_eq]; exact (Pl.trimLeftS_sub _ _).length_le, hb⟩
theorem cut_e (s : ByteArray) (F : Bool) (w : World) (hT : Tabs w) (hs : s.size < 4294967281) (hF : (Lib.cut s.data.toList [61]).2.2 = F) :
    Calls Tryd.prog 23 #[.string s, .string ⟨#[61]⟩] w fun e w' => ∃ a b : ByteArray, e = .returned (.tuple #[.string a, .string b, .bool F]) ∧ Hid (a.data.toList = (Lib.cut s.data.toList [61]).1) ∧ Hid (b.data.toList = (Lib.cut s.data.toList [61]).2.1) ∧ a.size ≤ s.size ∧ (F = true → b.size < s.size) ∧ Below w.heap.size w w' := by
  refine (cut_c s ⟨#[61]⟩ w hT hs).mono fun e w' ⟨he, hb⟩ => ⟨⟨(Lib.cut s.data.toList [61]).1.toArray⟩, ⟨(Lib.cut s.data.toList [61]).2.1.toArray⟩, by rw [← hF]; exact he, rfl, rfl, ?_, ?_, hb⟩
  · rw [size_arr, Lib.size_eq]
    rcases Pl.cut_split s.data.toList with ⟨h1, _⟩ | ⟨_, _, _, h4, _, _⟩
    · show (Lib.cut s.data.toList [61]).1.length ≤ _
      unfold Lib.cut at h1 ⊢
      split
      · rename_i h; rw [if_pos h] at h1; cases h1
      · exact Nat.le_refl _
    · exact Nat.le_of_lt h4
  · intro hf
    rw [size_arr, Lib.size_eq]
    rcases Pl.cut_split s.data.toList with ⟨h1, _⟩ | ⟨_, _, h3, _, _, _⟩
    · rw [hF, hf] at h1; cases h1
    · exact h3
theorem trimSpace_e (s : ByteArray) (w : World) (hs : s.size ≤ 9223372036854775807) (hT : Tabs w) :
    Calls Tryd.prog 26 #[.string s] w fun e w' => ∃ r : ByteArray, e = .returned (.string r) ∧ Hid (r.data.toList = Lib.trimSpaceD s.data.toList) ∧ r.size ≤ s.size ∧ Below w.heap.size w w' :=
  (trimSpace_c s w hs hT).mono fun e w' ⟨he, hb⟩ => ⟨_, he, rfl, by rw [size_arr, Lib.size_eq]; exact (Pl.trimSpace_sub _).length_le, hb⟩
theorem lower_e (s : ByteArray) (w : World) (hs : s.size < 35184372088832) (hT : Tabs w) :
    Calls Tryd.prog 25 #[.string s] w fun e w' => ∃ r : ByteArray, e = .returned (.string r) ∧ Hid (r.data.toList = Lib.toLowerD s.data.toList) ∧ r.size ≤ 4 * s.size ∧ Below w.heap.size w w' :=
  (lower_c s w hs hT).mono fun e w' ⟨he, hb⟩ => ⟨_, he, rfl, by rw [size_arr, Lib.size_eq]; exact Pl.lower_len _, hb⟩
theorem pv_e (s : ByteArray) (w : World) (hs : s.size ≤ 16777216) :
    Calls Tryd.prog 24 #[.string s] w fun e w' => ∃ v r : ByteArray, e = .returned (.tuple #[.string v, .string r]) ∧ Hid (Pl.PV s.data.toList v.data.toList r.data.toList) ∧ v.size ≤ s.size ∧ r.size ≤ s.size ∧ Below w.heap.size w w' :=
  (pv_any pvLib s w hs).mono fun e w' ⟨v, r, he, h, hb⟩ => ⟨v, r, he, h, by rw [Lib.size_eq, Lib.size_eq]; exact h.sub.2, by rw [Lib.size_eq, Lib.size_eq]; exact h.sub.1.length_le, hb⟩

def strLen : Value → Nat
  | .string s => s.size
  | _ => 0
theorem grown_below {w w' : World} (h : Below w.heap.size w w') (row : Option Nat) : w.grownBy w' row := ⟨h.os, h.tape, h.output, h.size, fun k hk _ => h.block k hk⟩

set_option maxRecDepth 100000 in
set_option maxHeartbeats 1000000 in
theorem ch_walk (s : ByteArray) (w : World) (hs : s.size ≤ 16777216) (hT0 : Tabs w) :
    Calls Tryd.prog 20 #[.string s] w fun e w' => ∃ es, e = .returned (.map (some w.heap.size)) ∧ Pl.Run s.data.toList es ∧ w'.ownsMap Tryd.prog 9 (plainElem (H := Unit) Tryd.prog 9) w.heap.size es.length (Pl.fillM (.map []) es) ∧ Below w.heap.size w w' := by
  have hmm := @run_makeMap Tryd.prog
  go_enter Tryd.func20, Tryd.ntmps20
  go_wp2_with fail
  go_loopw [0] (fun t wr => ∃ (x : ByteArray) (es : List (List UInt8 × List UInt8)), t = .string x ∧ x.size ≤ s.size ∧ es.length + x.size ≤ s.size ∧ wr.ownsMap Tryd.prog 9 (plainElem (H := Unit) Tryd.prog 9) w.heap.size es.length (Pl.fillM (.map []) es) ∧ Below w.heap.size w wr ∧
      Hid (∀ es', Pl.Run x.data.toList es' → Pl.Run s.data.toList (es ++ es')))
    (fun t _ => strLen t)
  case atStart => exact ⟨s, [], rfl, Nat.le_refl _, by simp, World.ownsMap_made _ _ _ _, (Below.refl _ _).alloc (Nat.le_refl _) _, fun es' h => h⟩
  case round =>
    obtain ⟨x, es, rfl, hx, hlen, hown, hbel, HR⟩ := hrel
    clear hmm
    have hT := hT0.below hbel
    have hz := hbel.size
    go_wp2_with fail
    refine (trimLeft_e x ⟨#[32, 9, 44]⟩ wr (by decide) (ascii_of_all (by decide))).mono ?_
    rintro e w1 ⟨t1, rfl, H1, hs1, hb1⟩
    have hT1 := hT.below hb1
    have hown1 := hown.kept (grown_below hb1 none) (by simp)
    have hbel1 := hbel.trans (hb1.mono hz)
    have hz1 := hbel1.size
    clear hown hbel hT hz
    cases hF : (Lib.cut t1.data.toList [61]).2.2 with
    | false =>
      have Hfin : Hid (Pl.Run s.data.toList es) := by
        show Pl.Run _ _
        have := HR.out [] (by show (Pl.cutOf _).2.2 = false; unfold Pl.cutOf; rw [← H1.out]; exact hF)
        simpa using this
      clear HR
      go_wp2_with fail
      refine (cut_e t1 false w1 hT1 (by omega) hF).mono ?_
      rintro e w2 ⟨a, b, rfl, H2, H3, hs2, _, hb2⟩
      have hown2 := hown1.kept (grown_below hb2 none) (by simp)
      have hbel2 := hbel1.trans (hb2.mono hz1)
      clear hown1 hbel1 hT1 hz1 hb1 hb2 hF
      go_wp2
      go_ret
      exact ⟨es, rfl, Hfin.out, hown2, hbel2⟩
    | true =>
      go_wp2_with fail
      refine (cut_e t1 true w1 hT1 (by omega) hF).mono ?_
      rintro e w2 ⟨a, b, rfl, H2, H3, hs2, hs3, hb2⟩
      have hs3' := hs3 rfl
      have HF : Hid ((Lib.cut t1.data.toList [61]).2.2 = true) := hF
      have hT2 := hT1.below hb2
      have hown2 := hown1.kept (grown_below hb2 none) (by simp)
      have hbel2 := hbel1.trans (hb2.mono hz1)
      have hz2 := hbel2.size
      clear hown1 hbel1 hT1 hz1 hb1 hb2 hF hs3
      go_wp2_with fail
      refine (trimLeft_e b ⟨#[32, 9]⟩ w2 (by decide) (ascii_of_all (by decide))).mono ?_
      rintro e w3 ⟨t3, rfl, H4, hs4, hb3⟩
      have hT3 := hT2.below hb3
      have hown3 := hown2.kept (grown_below hb3 none) (by simp)
      have hbel3 := hbel2.trans (hb3.mono hz2)
      have hz3 := hbel3.size
      clear hown2 hbel2 hT2 hz2 hb3
      go_wp2_with fail
      refine (pv_e t3 w3 (by omega)).mono ?_
      rintro e w4 ⟨v, r, rfl, H5, hs5, hs6, hb4⟩
      have hT4 := hT3.below hb4
      have hown4 := hown3.kept (grown_below hb4 none) (by simp)
      have hbel4 := hbel3.trans (hb4.mono hz3)
      have hz4 := hbel4.size
      clear hown3 hbel3 hT3 hz3 hb4
      go_wp2_with fail
      refine (trimSpace_e a w4 (by omega) hT4).mono ?_
      rintro e w5 ⟨k1, rfl, H6, hs7, hb5⟩
      have hT5 := hT4.below hb5
      have hown5 := hown4.kept (grown_below hb5 none) (by simp)
      have hbel5 := hbel4.trans (hb5.mono hz4)
      have hz5 := hbel5.size
      clear hown4 hbel4 hT4 hz4 hb5
      go_wp2_with fail
      refine (lower_e k1 w5 (by omega) hT5).mono ?_
      rintro e w6 ⟨k2, rfl, H7, hs8, hb6⟩
      have hown6 := hown5.kept (grown_below hb6 none) (by simp)
      have hbel6 := hbel5.trans (hb6.mono hz5)
      clear hown5 hbel5 hT5 hz5 hb6
      go_wp2_with (at_mapUpdate; go_loud (refine wpList_mapUpdate_own _ rfl _ _ _ 23 rfl 9 9 law Tryd.underlying23 _ w.heap.size es.length _ rfl hown6 (by unfold maxLen; omega) _ _ _ rfl rfl (keyOf_string_mk Tryd.underlying9 (by unfold maxLen; omega)) _ [] (plainElem_string Tryd.underlying9 (by unfold maxLen; omega)) ?_); intro w7 hown7 hgrow)
      have Hfin : Hid (∀ es', Pl.Run r.data.toList es' → Pl.Run s.data.toList ((es ++ [(k2.data.toList, v.data.toList)]) ++ es')) := by
        intro es' h
        have hst : Pl.Step x.data.toList k2.data.toList v.data.toList r.data.toList := by
          have e1 : Pl.cutOf x.data.toList = Lib.cut t1.data.toList [61] := by unfold Pl.cutOf; rw [H1.out]
          refine ⟨by rw [e1]; exact HF.out, ?_, ?_⟩
          · rw [e1, H7.out, H6.out, H2.out]
          · rw [e1, ← H3.out]
            have := H5.out
            rw [H4.out] at this
            exact this
        have := HR.out ((k2.data.toList, v.data.toList) :: es') ⟨r.data.toList, hst, h⟩
        simpa using this
      have hown8 : w7.ownsMap Tryd.prog 9 (plainElem (H := Unit) Tryd.prog 9) w.heap.size (es ++ [(k2.data.toList, v.data.toList)]).length (Pl.fillM (.map []) (es ++ [(k2.data.toList, v.data.toList)])) := by
        rw [Pl.fillM_snoc]; simpa using hown7
      have hbel7 := hbel6.grown hgrow hbel6.size (fun j hj => by cases hj; exact Nat.le_refl _)
      clear hown7 hgrow hown6 hbel6
      go_frame
      go_wp2
      go_roundw
      case rel => exact ⟨r, _, rfl, by omega, by simp; omega, hown8, hbel7, Hfin⟩
      case measure => simp [strLen]; omega

theorem ch8_walk (s : ByteArray) (w : World) (hs : s.size ≤ 16777216) (hT0 : Tabs w) :
    Calls Tryd.prog 8 #[.string s] w fun e w' => ∃ es, e = .returned (.map (some w.heap.size)) ∧ Pl.Run s.data.toList es ∧ w'.ownsMap Tryd.prog 9 (plainElem (H := Unit) Tryd.prog 9) w.heap.size es.length (Pl.fillM (.map []) es) ∧ Below w.heap.size w w' := by
  go_enter Tryd.func8, Tryd.ntmps8
  go_wp2_with fail
  refine (ch_walk s w hs hT0).mono ?_
  rintro e w' ⟨es, rfl, h⟩
  go_wp2
  go_ret
  exact ⟨es, rfl, h⟩
end Qxb6606102aDoor
end Go.Proofs
