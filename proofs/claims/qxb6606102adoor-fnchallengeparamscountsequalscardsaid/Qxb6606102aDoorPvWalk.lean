import Derived.Test.Qxb6606102aDoorProg
import Derived.Test.Qxb6606102aDoorPlain
import Derived.WalkKit
import Derived.WalkSpells
import Derived.WalkLawsBesides
import Derived.Deep.RegionWith
import Derived.RegionTactic
import Derived.Lib.Builder
import Derived.Lib.IndexBytes
import Derived.Shelf.Strings.Builder1
namespace Go.Proofs.Qxb6606102aDoor
open Go.RowKit

/-- The library's contracts that paramValue leans on, at this dump. -/
structure PvLib : Prop where
  hasPrefix : ∀ (s p : ByteArray) (w : World), Calls Tryd.prog 34 #[.string s, .string p] w fun e w' => e = .returned (.bool (Lib.hasPrefix s.data.toList p.data.toList)) ∧ w' = w
  writeByte : ∀ (B b : Nat) (bs : List Value) (c : Int) (w : World), Lib.IsBuilder 56 5 B b bs w → bs.length + 1 ≤ 140737488355328 → B ≤ w.heap.size →
    Calls Tryd.prog 36 #[.pointer (some ⟨b, 0, none⟩), .int .u8 c] w fun e w' => e = .returned .nilIface ∧ (Lib.BuilderAt 56 5 B b (.pointer (some ⟨b, 0, none⟩)) (bs ++ [.int .u8 c]) w' ∧ Below B w w')
  string : ∀ (B b : Nat) (l : List UInt8) (w : World), Lib.IsBuilder 56 5 B b (Lib.byteCells l) w → B ≤ w.heap.size →
    Calls Tryd.prog 37 #[.pointer (some ⟨b, 0, none⟩)] w fun e w' => e = .returned (.string ⟨l.toArray⟩) ∧ Below B w w'
  indexAny : ∀ (s : ByteArray) (w : World), s.size ≤ 16777216 → Calls Tryd.prog 35 #[.string s, .string ⟨#[32, 9, 44]⟩] w fun e w' => ∃ k : Int, e = .returned (.int .i64 k) ∧ -1 ≤ k ∧ k ≤ s.size ∧ Below w.heap.size w w'

theorem byteCells_snoc (l : List UInt8) (c : UInt8) : Lib.byteCells l ++ [.int .u8 (c.toNat : Int)] = Lib.byteCells (l ++ [c]) := by
  simp [Lib.byteCells]

theorem drop_at (s : ByteArray) (k : Nat) (h : k < s.size) : s.data.toList.drop k = s[k] :: s.data.toList.drop (k + 1) := by
  rw [List.drop_eq_getElem_cons (by simpa using h)]; rfl

set_option maxRecDepth 100000 in
set_option maxHeartbeats 1000000 in
theorem pv_quoted (L : PvLib) (s : ByteArray) (w : World) (hs : s.size ≤ 16777216) (t : List UInt8) (ht : s.data.toList = 34 :: t) :
    Calls Tryd.prog 24 #[.string s] w fun e w' => ∃ v r : ByteArray, e = .returned (.tuple #[.string v, .string r]) ∧ v.data.toList = (Pl.unq t).1 ∧ r.data.toList = (Pl.unq t).2 ∧ Below w.heap.size w w' := by
  have hp : Lib.hasPrefix s.data.toList [34] = true := by rw [ht]; rfl
  have hd1 : s.data.toList.drop 1 = t := by rw [ht]; rfl
  have hsz : 1 ≤ s.size := by
    have : s.data.toList.length = t.length + 1 := by rw [ht]; rfl
    rw [Lib.size_eq]; omega
  have Hd : Hid (s.data.toList.drop 1 = t) := hd1
  clear hd1
  go_enter Tryd.func24, Tryd.ntmps24
  go_wp2_with (go_at_call 34; refine (L.hasPrefix _ _ _).mono ?_; rintro e w' ⟨rfl, hw⟩; rw [hw, hp])
  clear hp ht
  go_loopw [6] (fun i wr => ∃ (k : Nat) (acc : List UInt8), 1 ≤ k ∧ k ≤ s.size ∧ i = .int .i64 k ∧ acc.length ≤ k ∧ Lib.IsBuilder 56 5 w.heap.size w.heap.size (Lib.byteCells acc) wr ∧ Below w.heap.size w wr ∧
      Hid (acc ++ (Pl.unq (s.data.toList.drop k)).1 = (Pl.unq t).1 ∧ (Pl.unq (s.data.toList.drop k)).2 = (Pl.unq t).2))
    (fun i _ => s.size - (intOf i).toNat)
  case atStart =>
    refine ⟨1, [], Nat.le_refl _, hsz, rfl, by simp, Or.inl ⟨Nat.le_refl _, .slice none 0 0, ?_, World.ownsRow_nil _ _ _ _, by simp [Value.ownBlock]⟩, (Below.refl _ _).alloc (Nat.le_refl _) _, ?_⟩
    · exact (MapKept.heap_alloc w _).1
    · show _ ∧ _
      rw [Hd.out]; exact ⟨rfl, rfl⟩
  case round =>
    obtain ⟨k, acc, hk1, hk, rfl, hacc, hB, hbel, HR⟩ := hrel
    have hsize := hbel.size
    have hlenA : (Lib.byteCells acc).length + 1 ≤ 140737488355328 := by simp [Lib.byteCells]; omega
    by_cases hlt : k < s.size
    · have hda := drop_at s k hlt
      have hkz : (k : Int) < (s.size : Int) := by omega
      by_cases h92 : s[k] = 92
      · have hb92 : ((s[k].toNat : Int) == 92) = true := by rw [h92]; rfl
        rw [h92] at hda
        by_cases hlt2 : k + 1 < s.size
        · have hz2 : (k : Int) + 1 < (s.size : Int) := by omega
          have hda2 := drop_at s (k + 1) hlt2
          have HN : Hid ((acc ++ [s[k + 1]]) ++ (Pl.unq (s.data.toList.drop (k + 2))).1 = (Pl.unq t).1 ∧ (Pl.unq (s.data.toList.drop (k + 2))).2 = (Pl.unq t).2) := by
            have h := HR.out
            rw [hda, hda2, Pl.unq_esc] at h
            exact ⟨by simpa using h.1, h.2⟩
          clear hda hda2 h92 HR
          go_wp2_with (go_at_call 36; refine (L.writeByte _ _ _ _ _ hB hlenA hsize).mono ?_; rintro e w1 ⟨rfl, hA1, hb1⟩)
          rw [byteCells_snoc] at hA1
          go_roundw
          case rel => exact ⟨k + 2, acc ++ [s[k + 1]], by omega, by omega, by go_num, by simp; omega, Or.inr hA1, hbel.trans hb1, HN⟩
          case measure => simp [intOf]; omega
        · have hz2 : ¬ (k : Int) + 1 < (s.size : Int) := by omega
          have HN : Hid (acc ++ (Pl.unq (s.data.toList.drop (k + 1))).1 = (Pl.unq t).1 ∧ (Pl.unq (s.data.toList.drop (k + 1))).2 = (Pl.unq t).2) := by
            have h := HR.out
            have he : s.data.toList.drop (k + 1) = [] := List.drop_eq_nil_of_le (by rw [← Lib.size_eq]; omega)
            rw [hda, he, Pl.unq_escEnd] at h
            rw [he]
            exact h
          clear hda h92 HR
          go_wp2
          go_roundw
          case rel => exact ⟨k + 1, acc, by omega, by omega, by go_num, by omega, hB, hbel, HN⟩
          case measure => simp [intOf]; omega
      · have hb92 : ((s[k].toNat : Int) == 92) = false := by
          rw [beq_eq_false_iff_ne]; intro e; exact h92 (UInt8.toNat_inj.1 (by show _ = 92; omega))
        by_cases h34 : s[k] = 34
        · have hb34 : ((s[k].toNat : Int) == 34) = true := by rw [h34]; rfl
          have HN : Hid (acc = (Pl.unq t).1 ∧ s.data.toList.drop (k + 1) = (Pl.unq t).2) := by
            have h := HR.out
            rw [hda, h34, Pl.unq_quote] at h
            exact ⟨by simpa using h.1, h.2⟩
          clear hda h92 h34 HR
          have hsl : ∀ W, (Instr.slice 9 (.string s) (some (.int .i64 ((k : Int) + 1))) none none).run Tryd.prog W = .ok (.string (s.extract (k + 1) s.size)) W := fun W => by
            rw [run_slice_string_from_if W 9 s .i64 _ Tryd.underlying9, if_pos ⟨by omega, by omega⟩, show ((k : Int) + 1).toNat = k + 1 from by omega]
          have hwr : IntKind.i64.wrap ((k : Int) + 1) = (k : Int) + 1 := wrap_small _ (by omega) (by omega)
          go_wp2_with fail
          go_region_with (go_at_call 37; refine (L.string _ _ _ _ (by exact hB) (by exact hsize)).mono ?_; rintro e w1 ⟨rfl, hb1⟩)
          all_goals
            go_wp2
            go_ret2
            have h := HN.out
            exact ⟨_, _, rfl, h.1, by rw [Lib.extract_to_end]; exact h.2, hbel.drew.trans hb1⟩
        · have hb34 : ((s[k].toNat : Int) == 34) = false := by
            rw [beq_eq_false_iff_ne]; intro e; exact h34 (UInt8.toNat_inj.1 (by show _ = 34; omega))
          have HN : Hid ((acc ++ [s[k]]) ++ (Pl.unq (s.data.toList.drop (k + 1))).1 = (Pl.unq t).1 ∧ (Pl.unq (s.data.toList.drop (k + 1))).2 = (Pl.unq t).2) := by
            have h := HR.out
            rw [hda, Pl.unq_plain _ _ h92 h34] at h
            exact ⟨by simpa using h.1, h.2⟩
          clear hda h92 h34 HR
          go_wp2_with (go_at_call 36; refine (L.writeByte _ _ _ _ _ hB hlenA hsize).mono ?_; rintro e w1 ⟨rfl, hA1, hb1⟩)
          rw [byteCells_snoc] at hA1
          go_roundw
          case rel => exact ⟨k + 1, acc ++ [s[k]], by omega, by omega, by go_num, by simp; omega, Or.inr hA1, hbel.trans hb1, HN⟩
          case measure => simp [intOf]; omega
    · have hk' : k = s.size := by omega
      subst hk'
      have hz : ¬ (s.size : Int) < (s.size : Int) := by omega
      go_wp2_with (go_at_call 37; refine (L.string _ _ _ _ hB hsize).mono ?_; rintro e w1 ⟨rfl, hb1⟩)
      go_ret2
      have h := HR.out
      have he : s.data.toList.drop s.size = [] := List.drop_eq_nil_of_le (by rw [← Lib.size_eq]; omega)
      rw [he, Pl.unq_nil] at h
      exact ⟨_, _, rfl, by simpa using h.1, h.2, hbel.trans hb1⟩

theorem hasPrefix_no {l : List UInt8} (h : ∀ t, l ≠ 34 :: t) : Lib.hasPrefix l [34] = false := by
  cases l with
  | nil => rfl
  | cons c t =>
    have hc : c ≠ 34 := fun e => h t (by rw [e])
    simp [Lib.hasPrefix, List.isPrefixOf, hc.symm]

set_option maxRecDepth 100000 in
set_option maxHeartbeats 1000000 in
theorem pv_token (L : PvLib) (s : ByteArray) (w : World) (hs : s.size ≤ 16777216) (ht : ∀ t, s.data.toList ≠ 34 :: t) :
    Calls Tryd.prog 24 #[.string s] w fun e w' => ∃ (v r : ByteArray) (k : Nat), e = .returned (.tuple #[.string v, .string r]) ∧ k ≤ s.data.toList.length ∧ v.data.toList = s.data.toList.take k ∧ r.data.toList = s.data.toList.drop k ∧ Below w.heap.size w w' := by
  have hp := hasPrefix_no ht
  have hl := Lib.size_eq s
  have HL : Hid (s.size = s.data.toList.length) := hl
  clear ht hl
  go_enter Tryd.func24, Tryd.ntmps24
  go_wp2_with (first
    | (go_at_call 34; refine (L.hasPrefix _ _ _).mono ?_; rintro e w' ⟨rfl, hw⟩; rw [hw, hp])
    | (go_at_call 35; refine (L.indexAny _ _ hs).mono ?_; rintro e w1 ⟨k, rfl, hk0, hk1, hb1⟩))
  · go_ret2
    exact ⟨s, ByteArray.empty, s.size, rfl, by rw [HL.out]; exact Nat.le_refl _, by rw [HL.out, List.take_length], by rw [HL.out, List.drop_length]; rfl, hb1⟩
  · rename_i hk
    obtain ⟨n, rfl⟩ : ∃ n : Nat, k = n := ⟨k.toNat, by omega⟩
    have h0 : (0 : Int) ≤ (n : Int) := by omega
    have h1 : n ≤ s.size := by omega
    go_region
    all_goals
      go_wp2
      go_ret2
      refine ⟨_, _, n, rfl, by rw [← HL.out]; exact h1, ?_, ?_, hb1.drew⟩
      · rw [Lib.extract_data]; simp
      · rw [Lib.extract_to_end]

theorem pv_any (L : PvLib) (s : ByteArray) (w : World) (hs : s.size ≤ 16777216) :
    Calls Tryd.prog 24 #[.string s] w fun e w' => ∃ v r : ByteArray, e = .returned (.tuple #[.string v, .string r]) ∧ Pl.PV s.data.toList v.data.toList r.data.toList ∧ Below w.heap.size w w' := by
  by_cases h : ∃ t, s.data.toList = 34 :: t
  · obtain ⟨t, ht⟩ := h
    exact (pv_quoted L s w hs t ht).mono fun e w' ⟨v, r, he, h1, h2, hb⟩ => ⟨v, r, he, Or.inl ⟨t, ht, h1, h2⟩, hb⟩
  · have ht : ∀ t, s.data.toList ≠ 34 :: t := fun t e => h ⟨t, e⟩
    exact (pv_token L s w hs ht).mono fun e w' ⟨v, r, k, he, hk, h1, h2, hb⟩ => ⟨v, r, he, Or.inr ⟨ht, k, hk, h1, h2⟩, hb⟩
end Go.Proofs.Qxb6606102aDoor
