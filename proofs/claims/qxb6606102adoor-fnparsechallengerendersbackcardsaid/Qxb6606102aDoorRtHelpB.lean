import Derived.Test.Qxb6606102aDoorRtHelp
namespace Go.Proofs.Qxb6606102aDoor
open Go.RowKit

def SomeBool (e : Ending) : Prop := ∃ b : Bool, e = .returned (.bool b)

set_option maxRecDepth 100000 in
set_option maxHeartbeats 2000000 in
theorem bytes17 (a0 a1 : Option Addr) (b0 o0 c0 b1 o1 c1 : Nat) (Ns Vs : List ByteArray) (gap sep : ByteArray) (w : World) (hN : Strs w a0 b0 o0 Ns) (hV : Strs w a1 b1 o1 Vs)
    (hn : Ns.length ≤ maxLen) (hv : Vs.length ≤ maxLen) (hg : gap.size ≤ maxLen) (hp : sep.size ≤ maxLen) :
    Calls Tryd.prog 17 #[.slice a0 Ns.length c0, .slice a1 Vs.length c1, .string gap, .string sep] w fun e w' => SomeBool e ∧ w' = w := by
  unfold maxLen at hn hv hg hp
  go_enter Tryd.func17, Tryd.ntmps17
  by_cases h1 : (1048576 : Int) < (Ns.length : Int)
  · go_wp2
    go_ret
    exact ⟨⟨_, rfl⟩, rfl⟩
  go_wp2
  go_loop [9, 10] (fun z i => ∃ k n : Nat, k ≤ Ns.length ∧ i = .int .i64 k ∧ n ≤ 1048576 ∧ z = .int .i64 n) (fun _ i => Ns.length - (intOf i).toNat)
  case atStart => exact ⟨0, Ns.length, Nat.zero_le _, rfl, by omega, rfl⟩
  case round =>
    obtain ⟨k, n, hk, rfl, hn2, rfl⟩ := hrel
    by_cases hlt : k < Ns.length
    · obtain ⟨rfl, hb0⟩ := hN.ad (by omega)
      have hc := hN.cell k hlt
      obtain ⟨X, hX⟩ : ∃ X, Ns.getD k ByteArray.empty = X := ⟨_, rfl⟩
      rw [hX] at hc
      clear hX
      have hkz : (k : Int) < (Ns.length : Int) := by omega
      by_cases h2 : (1048576 : Int) < (X.size : Int)
      · go_wp2
        go_ret
        exact ⟨⟨_, rfl⟩, rfl⟩
      · by_cases h3 : (1048576 : Int) < (n : Int) + (X.size : Int)
        · go_wp2
          go_ret
          exact ⟨⟨_, rfl⟩, rfl⟩
        · go_wp2
          go_round
          case rel => exact ⟨k + 1, n + X.size, by omega, by go_num, by omega, by go_num⟩
          case measure => simp [intOf]; omega
    · have hkz : ¬ (k : Int) < (Ns.length : Int) := by omega
      by_cases h4 : (1048576 : Int) < (Vs.length : Int)
      · go_wp2
        go_ret
        exact ⟨⟨_, rfl⟩, rfl⟩
      by_cases h5 : (1048576 : Int) < (n : Int) + (Vs.length : Int)
      · go_wp2
        go_ret
        exact ⟨⟨_, rfl⟩, rfl⟩
      go_wp2
      go_loop [9, 11] (fun z i => ∃ k n : Nat, k ≤ Vs.length ∧ i = .int .i64 k ∧ n ≤ 1048576 ∧ z = .int .i64 n) (fun _ i => Vs.length - (intOf i).toNat)
      case atStart => exact ⟨0, n + Vs.length, Nat.zero_le _, rfl, by omega, by go_num⟩
      case round =>
        obtain ⟨k', n', hk', rfl, hn3, rfl⟩ := hrel
        by_cases hlt' : k' < Vs.length
        · obtain ⟨rfl, hb1⟩ := hV.ad (by omega)
          have hc := hV.cell k' hlt'
          obtain ⟨X, hX⟩ : ∃ X, Vs.getD k' ByteArray.empty = X := ⟨_, rfl⟩
          rw [hX] at hc
          clear hX
          have hkz' : (k' : Int) < (Vs.length : Int) := by omega
          by_cases h2 : (1048576 : Int) < (X.size : Int)
          · go_wp2
            go_ret
            exact ⟨⟨_, rfl⟩, rfl⟩
          · by_cases h3 : (1048576 : Int) < (n' : Int) + (X.size : Int)
            · go_wp2
              go_ret
              exact ⟨⟨_, rfl⟩, rfl⟩
            · go_wp2
              go_round
              case rel => exact ⟨k' + 1, n' + X.size, by omega, by go_num, by omega, by go_num⟩
              case measure => simp [intOf]; omega
        · have hkz' : ¬ (k' : Int) < (Vs.length : Int) := by omega
          by_cases h6 : (1048576 : Int) < (gap.size : Int)
          · go_wp2
            go_ret
            exact ⟨⟨_, rfl⟩, rfl⟩
          by_cases h7 : (1048576 : Int) < (n' : Int) + (gap.size : Int)
          · go_wp2
            go_ret
            exact ⟨⟨_, rfl⟩, rfl⟩
          by_cases h8 : (1048576 : Int) < (sep.size : Int)
          · go_wp2
            go_ret
            exact ⟨⟨_, rfl⟩, rfl⟩
          by_cases h9 : (1048576 : Int) < (n' : Int) + (gap.size : Int) + (sep.size : Int)
          · go_wp2
            go_ret
            exact ⟨⟨_, rfl⟩, rfl⟩
          · go_wp2
            go_ret
            exact ⟨⟨_, rfl⟩, rfl⟩

theorem info9 : (Tryd.prog.info? 9).map (fun i => (i.zero, i.size, i.bytes)) = some (some (.string ⟨#[]⟩), 1, 16) := by kernel_rfl

/-- azkvB1CloneStrings: nil stays nil; else a new row. -/
def strVals (Xs : List ByteArray) : List Value := Xs.map Value.string
theorem strVals_get (Xs : List ByteArray) (j : Nat) (h : j < Xs.length) : (strVals Xs)[j]? = some (.string (Xs.getD j ByteArray.empty)) := by
  simp [strVals, List.getElem?_eq_getElem h, List.getD]
/-- what a row holds when the first k of Xs have been stored -/
def part (Xs : List ByteArray) (k : Nat) : List Value := strVals (Xs.take k) ++ List.replicate (Xs.length - k) (.string ⟨#[]⟩)
theorem part_zero (Xs : List ByteArray) : part Xs 0 = List.replicate Xs.length (.string ⟨#[]⟩) := by simp [part, strVals]
theorem part_all (Xs : List ByteArray) : part Xs Xs.length = strVals Xs := by simp [part]
theorem part_len (Xs : List ByteArray) (k : Nat) (h : k ≤ Xs.length) : (part Xs k).length = Xs.length := by simp [part, strVals]; omega
theorem part_set (Xs : List ByteArray) (k : Nat) (h : k < Xs.length) : (part Xs k).set k (.string (Xs.getD k ByteArray.empty)) = part Xs (k + 1) := by
  have hl : (strVals (Xs.take k)).length = k := by simp [strVals]; omega
  have e : List.replicate (Xs.length - k) (Value.string ⟨#[]⟩) = .string ⟨#[]⟩ :: List.replicate (Xs.length - (k + 1)) (.string ⟨#[]⟩) := by
    rw [← List.replicate_succ]; congr 1; omega
  unfold part
  rw [e, List.set_append_right _ _ (by omega), hl, Nat.sub_self, List.set_cons_zero]
  have e2 : strVals (Xs.take (k + 1)) = strVals (Xs.take k) ++ [.string (Xs.getD k ByteArray.empty)] := by
    unfold strVals
    rw [List.take_succ_eq_append_getElem h, List.map_append, List.getD, List.getElem?_eq_getElem h]
    rfl
  rw [e2]
  simp
theorem part_at (Xs : List ByteArray) (k : Nat) (h : k < Xs.length) : (part Xs k)[k]? = some (.string ⟨#[]⟩) := by
  have hl : (strVals (Xs.take k)).length = k := by simp [strVals]; omega
  unfold part
  rw [List.getElem?_append_right (by omega), hl, Nat.sub_self, List.getElem?_replicate, if_pos (by omega)]

theorem clone_nil (w : World) : Calls Tryd.prog 11 #[.slice none 0 0] w fun e w' => e = .returned (.slice none 0 0) ∧ w' = w := by
  have hq : ∀ (w : World) (a : Option Addr) (n c : Nat), (binOp .eql 25 (.slice a n c) (.slice none 0 0)).run Tryd.prog w = .ok (.bool a.isNone) w := fun w a n c => Lib.run_eql_slice_nil w 25 _ a n c 0 0 Tryd.underlying25
  go_enter Tryd.func11, Tryd.ntmps11
  go_wp2
  go_ret
  exact ⟨rfl, rfl⟩

set_option maxRecDepth 100000 in
set_option maxHeartbeats 1000000 in
theorem clone_walk (ad : Addr) (b o c : Nat) (Xs : List ByteArray) (w : World) (hX : Strs w (some ad) b o Xs) (hn : Xs.length ≤ 4096) :
    Calls Tryd.prog 11 #[.slice (some ad) Xs.length c] w fun e w' => e = .returned (.slice (some ⟨w.heap.size, 0, none⟩) Xs.length Xs.length) ∧ w'.ownsRow w.heap.size 9 1 (.slice (some ⟨w.heap.size, 0, none⟩) Xs.length Xs.length) Xs.length (strVals Xs) ∧ Below w.heap.size w w' := by
  have hq : ∀ (w : World) (a : Option Addr) (n c : Nat), (binOp .eql 25 (.slice a n c) (.slice none 0 0)).run Tryd.prog w = .ok (.bool a.isNone) w := fun w a n c => Lib.run_eql_slice_nil w 25 _ a n c 0 0 Tryd.underlying25
  obtain ⟨i0, hi, hz0, hz1, hz2⟩ := info_parts info9
  obtain ⟨w1, hmk, hown, hgr⟩ := run_make_full (P := Tryd.prog) w w.heap.size 25 9 i0 _ 1 Tryd.underlying25 hi hz0 hz1 .i64 .i64 Xs.length (by rw [hz2]; omega) (by unfold maxLen; omega) (Nat.le_refl _)
  have hb1 : Below w.heap.size w w1 := (Below.refl _ w).grown hgr (Nat.le_refl _) (fun k hk => by cases hk)
  have hcs : (madeCells (Value.string ⟨#[]⟩).cells (Xs.length * 1)).toList = part Xs 0 := by
    rw [part_zero, Nat.mul_one]; exact toList_madeCells_one _ _
  rw [hcs] at hown
  clear hcs hgr hz0 hz1 hz2 hi
  go_enter Tryd.func11, Tryd.ntmps11
  go_wp2
  go_loopw [4] (fun i wr => ∃ k : Nat, k ≤ Xs.length ∧ i = .int .i64 k ∧ wr.ownsRow w.heap.size 9 1 (.slice (some ⟨w.heap.size, 0, none⟩) Xs.length Xs.length) Xs.length (part Xs k) ∧ Below w.heap.size w wr) (fun i _ => Xs.length - (intOf i).toNat)
  case atStart => exact ⟨0, Nat.zero_le _, rfl, hown, hb1⟩
  case round =>
    obtain ⟨k, hk, rfl, hownr, hbel⟩ := hrel
    clear hmk hown hb1
    by_cases hlt : k < Xs.length
    · have hkz : (k : Int) < (Xs.length : Int) := by omega
      obtain ⟨had, hbw⟩ := hX.ad (by omega)
      obtain rfl : ad = ⟨b, o, none⟩ := Option.some.inj had
      have hc := (hbel.cell (p := ⟨b, o + k, none⟩) hbw).trans (hX.cell k hlt)
      have hps := part_set Xs k hlt
      obtain ⟨X, hXd⟩ : ∃ X, Xs.getD k ByteArray.empty = X := ⟨_, rfl⟩
      rw [hXd] at hc hps
      have hold := (hownr.cellAt k (by omega)).trans (part_at Xs k hlt)
      have hfz := hownr.frozenAt k
      have hst := hownr.stored k (.string X)
      rw [hps] at hst
      have hbel2 := hbel.setCell (p := ⟨w.heap.size, k, none⟩) (Nat.le_refl _) (.string X)
      clear hXd hps had
      have HS : Hid ((wr.setCell ⟨w.heap.size, k, none⟩ (.string X)).ownsRow w.heap.size 9 1 (.slice (some ⟨w.heap.size, 0, none⟩) Xs.length Xs.length) Xs.length (part Xs (k + 1))) := hst.1
      clear hst
      go_wp2
      go_roundw
      case rel => exact ⟨k + 1, by omega, by go_num, HS.out, hbel2⟩
      case measure => simp [intOf]; omega
    · have hk' : k = Xs.length := by omega
      subst hk'
      have hkz : ¬ (Xs.length : Int) < (Xs.length : Int) := by omega
      rw [part_all] at hownr
      go_wp2
      go_ret
      exact ⟨rfl, hownr, hbel⟩

theorem Strs.of_row {w : World} {B g : Nat} {Xs : List ByteArray} (h : w.ownsRow B 9 1 (.slice (some ⟨g, 0, none⟩) Xs.length Xs.length) Xs.length (strVals Xs)) : Strs w (some ⟨g, 0, none⟩) g 0 Xs :=
  ⟨fun _ => ⟨rfl, (World.ownsRow.lt h g rfl).2⟩, fun j hj => by rw [Nat.zero_add]; exact (h.cellAt j (by omega)).trans (strVals_get Xs j hj)⟩
end Go.Proofs.Qxb6606102aDoor
