import Derived.Test.Qxb6606102aDoorProg
import Derived.Test.Qxb6606102aDoorPlainB
import Derived.WalkKit
import Derived.WalkSpells
import Derived.WalkLawsBesides
import Derived.Laws.MakeOwn
import Derived.Laws.OwnMore
import Derived.Deep.LoopGhost
import Derived.Deep.QuietTactic
import Derived.BigQuiet
import Derived.Lib.IndexBytes
namespace Go.Proofs.Qxb6606102aDoor
open Go.RowKit

/-- A slice of strings that lies somewhere: its cells. -/
structure Strs (W : World) (a0 : Option Addr) (b off : Nat) (Xs : List ByteArray) : Prop where
  ad : 0 < Xs.length → a0 = some ⟨b, off, none⟩ ∧ b < W.heap.size
  cell : ∀ j, j < Xs.length → W.cell? ⟨b, off + j, none⟩ = some (.string (Xs.getD j ByteArray.empty))
theorem Strs.below {W W' : World} {B : Nat} {a0 : Option Addr} {b off : Nat} {Xs : List ByteArray} (h : Strs W a0 b off Xs) (hb : Below B W W') (hB : 0 < Xs.length → b < B) : Strs W' a0 b off Xs :=
  ⟨fun h0 => ⟨(h.ad h0).1, Nat.lt_of_lt_of_le (h.ad h0).2 hb.size⟩, fun j hj => (hb.cell (hB (by omega))).trans (h.cell j hj)⟩

theorem retB {a b : Bool} (h : a = b) : Ending.returned (.bool a) = .returned (.bool b) := by rw [h]
def allPlain (s : ByteArray) : Bool := s.data.toList.all Pl.plainB
def allIn (s cs : ByteArray) : Bool := s.data.toList.all (cs.data.toList.contains ·)

/-! ### azkvB1PlainName -/
set_option maxRecDepth 100000 in
set_option maxHeartbeats 1000000 in
theorem plainName_walk (s : ByteArray) (w : World) (hs : s.size ≤ 1048576) :
    Calls Tryd.prog 19 #[.string s] w fun e w' => e = .returned (.bool (allPlain s)) ∧ w' = w := by
  go_enter Tryd.func19, Tryd.ntmps19
  go_wp2
  go_loop [3] (fun i => ∃ k : Nat, k ≤ s.size ∧ i = .int .i64 k ∧ Hid ((s.data.toList.take k).all Pl.plainB = true)) (fun i => s.size - (intOf i).toNat)
  case atStart => exact ⟨0, Nat.zero_le _, rfl, rfl⟩
  case round =>
    obtain ⟨k, hk, rfl, HK⟩ := hrel
    by_cases hlt : k < s.size
    · have hkz : (k : Int) < (s.size : Int) := by omega
      have hts : s.data.toList.take (k + 1) = s.data.toList.take k ++ [s[k]] := by
        rw [List.take_succ_eq_append_getElem (by simpa using hlt)]; rfl
      have hmem : s[k] ∈ s.data.toList := Array.getElem_mem_toList (xs := s.data) hlt
      cases hp : Pl.plainB s[k] with
      | true =>
        have HK' : Hid ((s.data.toList.take (k + 1)).all Pl.plainB = true) := by
          show _ = _
          rw [hts, List.all_append, HK.out]; simp [hp]
        have hq := (Pl.plainB_iff s[k]).1 hp
        clear hts hp hmem
        have h1 : ¬ (s[k].toNat : Int) < 33 := by omega
        have h2 : ¬ (126 : Int) < (s[k].toNat : Int) := by omega
        have h3 : ((s[k].toNat : Int) == 61) = false := by rw [beq_eq_false_iff_ne]; omega
        have h4 : ((s[k].toNat : Int) == 44) = false := by rw [beq_eq_false_iff_ne]; omega
        by_cases h5 : (65 : Int) ≤ (s[k].toNat : Int)
        · have h6 : ¬ (s[k].toNat : Int) ≤ 90 := by omega
          clear hq
          go_wp2
          go_round
          case rel => exact ⟨k + 1, by omega, by go_num, HK'⟩
          case measure => simp [intOf]; omega
        · clear hq
          go_wp2
          go_round
          case rel => exact ⟨k + 1, by omega, by go_num, HK'⟩
          case measure => simp [intOf]; omega
      | false =>
        have Hfin : Hid (allPlain s = false) := by
          show _ = _
          unfold allPlain
          rw [List.all_eq_false]
          exact ⟨s[k], hmem, by rw [hp]; exact Bool.false_ne_true⟩
        have hq : ¬ (33 ≤ s[k].toNat ∧ s[k].toNat ≤ 126 ∧ s[k].toNat ≠ 61 ∧ s[k].toNat ≠ 44 ∧ ¬ (65 ≤ s[k].toNat ∧ s[k].toNat ≤ 90)) := fun h => by
          rw [(Pl.plainB_iff s[k]).2 h] at hp; cases hp
        clear hts hp hmem HK
        by_cases h1 : (s[k].toNat : Int) < 33
        · go_wp2; go_ret; exact ⟨retB Hfin.out.symm, rfl⟩
        by_cases h2 : (126 : Int) < (s[k].toNat : Int)
        · clear hq; go_wp2; go_ret; exact ⟨retB Hfin.out.symm, rfl⟩
        cases h3 : ((s[k].toNat : Int) == 61)
        · cases h4 : ((s[k].toNat : Int) == 44)
          · have h3' : s[k].toNat ≠ 61 := by rw [beq_eq_false_iff_ne] at h3; omega
            have h4' : s[k].toNat ≠ 44 := by rw [beq_eq_false_iff_ne] at h4; omega
            have h5 : (65 : Int) ≤ (s[k].toNat : Int) := by omega
            have h6 : (s[k].toNat : Int) ≤ 90 := by omega
            clear hq h3' h4'
            go_wp2; go_ret; exact ⟨retB Hfin.out.symm, rfl⟩
          · clear hq; go_wp2; go_ret; exact ⟨retB Hfin.out.symm, rfl⟩
        · clear hq; go_wp2; go_ret; exact ⟨retB Hfin.out.symm, rfl⟩
    · have hk' : k = s.size := by omega
      subst hk'
      have hz : ¬ (s.size : Int) < (s.size : Int) := by omega
      have h := HK.out
      rw [List.take_of_length_le (by rw [← Lib.size_eq]; exact Nat.le_refl _)] at h
      have HF : Hid (allPlain s = true) := h
      clear h HK
      go_wp2
      go_ret
      exact ⟨retB HF.out.symm, rfl⟩

/-! ### azkvB1AllIn -/
theorem any_snoc (l : List UInt8) (x c : UInt8) : (l ++ [x]).contains c = (l.contains c || c == x) := by
  rw [Bool.eq_iff_iff]
  simp

set_option maxRecDepth 100000 in
set_option maxHeartbeats 1000000 in
theorem allIn_walk (s cs : ByteArray) (w : World) (hs : s.size ≤ 1048576) (hc : cs.size ≤ 1048576) :
    Calls Tryd.prog 18 #[.string s, .string cs] w fun e w' => e = .returned (.bool (allIn s cs)) ∧ ∃ n, w' = w.drewN n := by
  go_enter Tryd.func18, Tryd.ntmps18
  go_wp2
  go_loopw [5] (fun i wr => ∃ k n : Nat, k ≤ s.size ∧ i = .int .i64 k ∧ wr = w.drewN n ∧ Hid ((s.data.toList.take k).all (cs.data.toList.contains ·) = true)) (fun i _ => s.size - (intOf i).toNat)
  case atStart => exact ⟨0, 0, Nat.zero_le _, rfl, rfl, rfl⟩
  case round =>
    obtain ⟨k, n, hk, rfl, rfl, HK⟩ := hrel
    by_cases hlt : k < s.size
    · have hkz : (k : Int) < (s.size : Int) := by omega
      have hts : s.data.toList.take (k + 1) = s.data.toList.take k ++ [s[k]] := by
        rw [List.take_succ_eq_append_getElem (by simpa using hlt)]; rfl
      have hmem : s[k] ∈ s.data.toList := Array.getElem_mem_toList (xs := s.data) hlt
      have HT : Hid (s.data.toList.take (k + 1) = s.data.toList.take k ++ [s[k]]) := hts
      have HM : Hid (s[k] ∈ s.data.toList) := hmem
      clear hts hmem
      go_wp2
      go_loopw [6, 7] (fun f j wr => ∃ m n : Nat, m ≤ cs.size ∧ j = .int .i64 m ∧ wr = w.drewN n ∧ f = .bool ((cs.data.toList.take m).contains s[k])) (fun _ j _ => cs.size - (intOf j).toNat)
      case atStart => exact ⟨0, n, Nat.zero_le _, rfl, rfl, rfl⟩
      case round =>
        obtain ⟨m, n2, hm, rfl, rfl, rfl⟩ := hrel
        by_cases hlt2 : m < cs.size
        · have hmz : (m : Int) < (cs.size : Int) := by omega
          have hts : cs.data.toList.take (m + 1) = cs.data.toList.take m ++ [cs[m]] := by
            rw [List.take_succ_eq_append_getElem (by simpa using hlt2)]; rfl
          obtain ⟨F, hF⟩ : ∃ F, (cs.data.toList.take m).contains s[k] = F := ⟨_, rfl⟩
          have HF : Hid ((cs.data.toList.take (m + 1)).contains s[k] = (F || s[k] == cs[m])) := by
            show _ = _
            rw [hts, any_snoc, hF]
          rw [hF]
          clear hts hF
          cases hb : ((s[k].toNat : Int) == (cs[m].toNat : Int))
          · have hb' : (s[k] == cs[m]) = false := by
              rw [beq_eq_false_iff_ne] at hb ⊢
              intro e; rw [e] at hb; exact hb rfl
            have HF' : Hid ((cs.data.toList.take (m + 1)).contains s[k] = F) := by
              show _ = _
              rw [HF.out, hb', Bool.or_false]
            clear HF hb'
            go_wp2_with fail
            go_quiet (fail)
            go_wp2
            go_roundw
            case rel => exact ⟨m + 1, _, by omega, by go_num, rfl, by rw [HF'.out]⟩
            case measure => simp [intOf]; omega
          · have hb' : (s[k] == cs[m]) = true := by
              rw [beq_iff_eq] at hb ⊢
              exact UInt8.toNat_inj.1 (by omega)
            have HF' : Hid ((cs.data.toList.take (m + 1)).contains s[k] = true) := by
              show _ = _
              rw [HF.out, hb', Bool.or_true]
            clear HF hb'
            go_wp2_with fail
            go_quiet (fail)
            go_wp2
            go_roundw
            case rel => exact ⟨m + 1, _, by omega, by go_num, rfl, by rw [HF'.out]⟩
            case measure => simp [intOf]; omega
        · have hm' : m = cs.size := by omega
          subst hm'
          have hz : ¬ (cs.size : Int) < (cs.size : Int) := by omega
          rw [List.take_of_length_le (by rw [← Lib.size_eq]; exact Nat.le_refl _)]
          cases hF : cs.data.toList.contains s[k]
          · have Hfin : Hid (allIn s cs = false) := by
              show _ = _
              unfold allIn
              rw [List.all_eq_false]
              exact ⟨s[k], HM.out, by rw [hF]; exact Bool.false_ne_true⟩
            clear hF HM HT HK
            go_wp2
            go_ret
            exact ⟨retB Hfin.out.symm, _, rfl⟩
          · have HK' : Hid ((s.data.toList.take (k + 1)).all (cs.data.toList.contains ·) = true) := by
              show _ = _
              rw [HT.out, List.all_append, HK.out, List.all_cons, List.all_nil, hF]; rfl
            clear hF HM HT HK
            go_wp2
            go_roundw
            case rel => exact ⟨k + 1, _, by omega, by go_num, rfl, HK'⟩
            case measure => simp [intOf]; omega
    · have hk' : k = s.size := by omega
      subst hk'
      have hz : ¬ (s.size : Int) < (s.size : Int) := by omega
      have h := HK.out
      rw [List.take_of_length_le (by rw [← Lib.size_eq]; exact Nat.le_refl _)] at h
      have HF : Hid (allIn s cs = true) := h
      clear h HK
      go_wp2
      go_ret
      exact ⟨retB HF.out.symm, _, rfl⟩
end Go.Proofs.Qxb6606102aDoor
