import Derived.Test.Qxb6608627aDoorTrim
import Derived.Lib.Strings
namespace Go.Proofs.Qxb6608627aDoor
open Go.RowKit

theorem drewN_add (w : World) (a b : Nat) : (w.drewN a).drewN b = w.drewN (a + b) := by
  simp only [World.drewN, Nat.add_assoc]
theorem bdrop_cons (S : ByteArray) (k : Nat) (h : k < S.size) : S.data.toList.drop k = S[k] :: S.data.toList.drop (k + 1) := by
  have h' : k < S.data.toList.length := by rw [← Lib.size_eq]; exact h
  rw [List.drop_eq_getElem_cons h']; rfl
theorem index_run (S : ByteArray) (k : Nat) (h : k < S.size) : ∃ c : UInt8, S.data.toList.drop k = c :: S.data.toList.drop (k + 1) ∧ ∀ W, (Instr.index 9 (.string S) (.int .i64 (k : Int))).run Tryd.prog W = .ok (.int .u8 (c.toNat : Int)) W :=
  ⟨S[k], bdrop_cons S k h, fun W => by rw [run_index_string _ _ _ _ _ Tryd.underlying9]; simp [h]⟩
/-- is the head less? from place i on -/
def plt (d : Nat → Nat) (nd : Nat) : Nat → List UInt8 → Bool
  | _, [] => false
  | i, x :: l => if nd ≤ i then true else if d i = x.toNat then plt d nd (i + 1) l else decide (d i < x.toNat)
theorem retB {a b : Bool} (h : a = b) : Ending.returned (.bool a) = .returned (.bool b) := by rw [h]

set_option maxRecDepth 100000 in
set_option maxHeartbeats 4000000 in
theorem prefix_walk (b : Nat) (d : Nat → Nat) (nd : Nat) (s : ByteArray) (w : World) (hc : ∀ i, i < nd → w.cell? ⟨b, i, none⟩ = some (.int .u8 (d i : Int))) (hnd : nd ≤ 800) (_hs : s.size ≤ 1000) (B : Bool) (hB : Hid (plt d nd 0 s.data.toList = B)) :
    Calls Tryd.prog 62 #[.slice (some ⟨b, 0, none⟩) nd 800, .string s] w fun e w' => e = .returned (.bool B) ∧ ∃ n, w' = w.drewN n := by
  have HC : Hid (∀ i, i < nd → w.cell? ⟨b, i, none⟩ = some (.int .u8 (d i : Int))) := hc
  clear hc
  go_enter Tryd.func62, Tryd.ntmps62
  go_wp2_with fail
  go_loopg [5] (s.size + 1) (fun gf v wr => ∃ (k n : Nat), k ≤ s.size ∧ v = .int .i64 (k : Int) ∧ Hid (wr = w.drewN n) ∧ s.size < gf + k ∧ Hid (plt d nd k (s.data.toList.drop k) = B))
  case atStart => exact ⟨0, 0, Nat.zero_le _, rfl, rfl, by omega, by simpa using hB⟩
  case round =>
    obtain ⟨k, n, hk, rfl, HW, hg, HK⟩ := hrel
    clear hB
    by_cases hlt : k < s.size
    · obtain ⟨c, hcd, hix⟩ := index_run s k hlt
      have hkz : (k : Int) < (s.size : Int) := by omega
      by_cases hn : nd ≤ k
      · have hnz : (nd : Int) ≤ (k : Int) := by omega
        have HE : Hid (B = true) := by show _ = _; rw [← HK.out, hcd, plt, if_pos hn]
        clear HK hcd
        go_wp2
        go_ret
        exact ⟨retB HE.out.symm, n, HW.out⟩
      · have hnz : ¬ (nd : Int) ≤ (k : Int) := by omega
        have hnzb : decide ((nd : Int) ≤ (k : Int)) = false := decide_eq_false hnz
        have hknd : (k : Int) < (nd : Int) := by omega
        have hcell : wr.cell? ⟨b, k, none⟩ = some (.int .u8 (d k : Int)) := by rw [HW.out]; exact HC.out k (by omega)
        by_cases he : d k = c.toNat
        · have heb : ((d k : Int) == (c.toNat : Int)) = true := by rw [beq_iff_eq]; omega
          have HK' : Hid (plt d nd (k + 1) (s.data.toList.drop (k + 1)) = B) := by show _ = _; rw [← HK.out, hcd, plt, if_neg hn, if_pos he]
          clear HK hcd he
          go_wp2_with fail
          go_quiet (fail)
          go_wp2
          go_roundg (gk - 1)
          case measure => omega
          case rel => exact ⟨k + 1, _, by omega, by go_num, (by show _ = _; rw [HW.out]; exact drewN_add _ _ _), by omega, HK'⟩
        · have heb : ((d k : Int) == (c.toNat : Int)) = false := by rw [beq_eq_false_iff_ne]; omega
          have HE : Hid (decide (d k < c.toNat) = B) := by
            show _ = _
            rw [← HK.out, hcd, plt, if_neg hn, if_neg he]
          clear HK hcd he
          go_wp2_with fail
          go_quiet (fail)
          go_wp2_with fail
          go_quiet (fail)
          go_wp2
          go_ret
          exact ⟨retB HE.out, _, by rw [HW.out, drewN_add]; exact drewN_add _ _ _⟩
    · have hkz : ¬ (k : Int) < (s.size : Int) := by omega
      have HE : Hid (B = false) := by
        show _ = _
        rw [← HK.out, List.drop_of_length_le (by rw [← Lib.size_eq]; omega)]; rfl
      clear HK
      go_wp2
      go_ret
      exact ⟨retB HE.out.symm, n, HW.out⟩
end Go.Proofs.Qxb6608627aDoor
