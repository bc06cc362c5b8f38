import Derived.Test.Qxb6609149aFmtPa
namespace Go.Proofs.Qxb6609149aFmt
open Go.RowKit Go.Extern.Stop Go.Stop Go.Extern

theorem add_run (x y : ByteArray) (h : x.size + y.size ≤ 9223372036854775807) : ∃ z : ByteArray, z.data.toList = x.data.toList ++ y.data.toList ∧ ∀ W, (Op.stringOp .add x y).run Tryf.prog W = .ok (.string z) W :=
  ⟨x ++ y, by rw [ByteArray.data_append]; simp, fun W => run_string_add_sum W x y h⟩
theorem join_take (Xs : List ByteArray) (k : Nat) (h : k < Xs.length) (h0 : 0 < k) : joinC ((Xs.take (k + 1)).map (·.data.toList)) = joinC ((Xs.take k).map (·.data.toList)) ++ 44 :: (Xs.getD k ByteArray.empty).data.toList := by
  rw [List.take_succ_eq_append_getElem h, List.map_append, List.getD, List.getElem?_eq_getElem h, Option.getD_some]
  exact joinC_snoc _ _ (by
    intro e
    have := congrArg List.length e
    rw [List.length_map, List.length_take, List.length_nil] at this
    omega)
theorem spl_len : ∀ (l : List UInt8), ∀ x ∈ spl l, x.length ≤ l.length
  | [], x, hx => by simp [spl] at hx; subst hx; simp
  | c :: l, x, hx => by
    have ih := spl_len l
    by_cases h : c = 44
    · subst h
      rw [spl_comma] at hx
      rcases List.mem_cons.1 hx with rfl | hx
      · simp
      · have := ih x hx; simp; omega
    · obtain ⟨y, ys, hy⟩ := List.exists_cons_of_ne_nil (spl_ne l)
      rw [spl_other c l h hy] at hx
      rcases List.mem_cons.1 hx with rfl | hx
      · have := ih y (by rw [hy]; simp); simp; omega
      · have := ih x (by rw [hy]; simp [hx]); simp; omega
theorem segs_size (s : ByteArray) (j : Nat) : ((segs s).getD j ByteArray.empty).size ≤ s.size := by
  by_cases hj : j < (segs s).length
  · have hm := getD_mem (segs s) j hj
    have := spl_len s.data.toList _ (by rw [← segs_data]; exact List.mem_map_of_mem hm)
    rw [Lib.size_eq, Lib.size_eq]; exact this
  · rw [List.getD, List.getElem?_eq_none (by omega)]; exact Nat.zero_le _

set_option maxRecDepth 100000 in
set_option maxHeartbeats 2000000 in
theorem join_walk (b c : Nat) (Xs : List ByteArray) (w : World) (hn : Xs.length ≤ 8) (hc : Hid (∀ j, j < Xs.length → w.cell? ⟨b, j, none⟩ = some (.string (Xs.getD j ByteArray.empty)))) (M : Nat) (hM : Hid (∀ j, (Xs.getD j ByteArray.empty).size ≤ M)) (hM2 : M ≤ 16777216) :
    Calls Tryf.prog 6 #[.slice (some ⟨b, 0, none⟩) Xs.length c] w fun e w' => (∃ z : ByteArray, e = .returned (.string z) ∧ z.data.toList = joinC (Xs.map (·.data.toList))) ∧ w' = w := by
  go_enter Tryf.func6, Tryf.ntmps6
  go_wp2
  go_loop [3, 4] (fun s i => ∃ (k : Nat) (z : ByteArray), k ≤ Xs.length ∧ i = .int .i64 k ∧ s = .string z ∧ z.size ≤ k * (M + 1) ∧ Hid (z.data.toList = joinC ((Xs.take k).map (·.data.toList)))) (fun _ i => Xs.length - (intOf i).toNat)
  case atStart => exact ⟨0, ⟨#[]⟩, Nat.zero_le _, rfl, rfl, by simp [ByteArray.size], rfl⟩
  case round =>
    obtain ⟨k, z, hk, rfl, rfl, hz, HZ⟩ := hrel
    by_cases hlt : k < Xs.length
    · have hkz : (k : Int) < (Xs.length : Int) := by omega
      have hck := hc.out k hlt
      have hXM := hM.out k
      have hkm : k * (M + 1) ≤ 8 * 16777217 := Nat.mul_le_mul (by omega) (by omega)
      have hkm1 : (k + 1) * (M + 1) = k * (M + 1) + (M + 1) := Nat.succ_mul _ _
      have HT : Hid (0 < k → joinC ((Xs.take (k + 1)).map (·.data.toList)) = joinC ((Xs.take k).map (·.data.toList)) ++ 44 :: (Xs.getD k ByteArray.empty).data.toList) := join_take Xs k hlt
      have HT0 : Hid (k = 0 → joinC ((Xs.take (k + 1)).map (·.data.toList)) = (Xs.getD k ByteArray.empty).data.toList) := fun e => by
        subst e
        rw [List.take_succ_eq_append_getElem hlt, List.getD, List.getElem?_eq_getElem hlt]; rfl
      obtain ⟨X, hX⟩ : ∃ X, Xs.getD k ByteArray.empty = X := ⟨_, rfl⟩
      rw [hX] at hck hXM HT HT0
      clear hX
      by_cases hk0 : (0 : Int) < (k : Int)
      · obtain ⟨z1, hz1, ha1⟩ := add_run z ⟨#[44]⟩ (by show _ + 1 ≤ _; omega)
        have hs1 : z1.size = z.size + 1 := by rw [Lib.size_eq, hz1, List.length_append, ← Lib.size_eq]; rfl
        obtain ⟨z2, hz2, ha2⟩ := add_run z1 X (by omega)
        have hs2 : z2.size = z.size + 1 + X.size := by rw [Lib.size_eq, hz2, List.length_append, ← Lib.size_eq, ← Lib.size_eq, hs1]
        have HZ2 : Hid (z2.data.toList = joinC ((Xs.take (k + 1)).map (·.data.toList))) := by
          show _ = _
          rw [HT.out (by omega), hz2, hz1, HZ.out]; simp
        clear hz1 hz2 HZ HT HT0
        go_wp2
        go_round
        case rel => exact ⟨k + 1, z2, by omega, by go_num, rfl, by omega, HZ2⟩
        case measure => simp [intOf]; omega
      · obtain ⟨z2, hz2, ha2⟩ := add_run z X (by omega)
        have hs2 : z2.size = z.size + X.size := by rw [Lib.size_eq, hz2, List.length_append, ← Lib.size_eq, ← Lib.size_eq]
        have HZ2 : Hid (z2.data.toList = joinC ((Xs.take (k + 1)).map (·.data.toList))) := by
          show _ = _
          have e0 : k = 0 := by omega
          rw [HT0.out e0, hz2, HZ.out, e0]; rfl
        clear hz2 HZ HT HT0
        go_wp2
        go_round
        case rel => exact ⟨k + 1, z2, by omega, by go_num, rfl, by omega, HZ2⟩
        case measure => simp [intOf]; omega
    · have hk' : k = Xs.length := by omega
      have hkz : ¬ (k : Int) < (Xs.length : Int) := by omega
      have HF : Hid (z.data.toList = joinC (Xs.map (·.data.toList))) := by
        show _ = _
        rw [HZ.out, hk', List.take_length]
      clear HZ
      go_wp2
      go_ret
      exact ⟨⟨z, rfl, HF.out⟩, rfl⟩
end Go.Proofs.Qxb6609149aFmt
