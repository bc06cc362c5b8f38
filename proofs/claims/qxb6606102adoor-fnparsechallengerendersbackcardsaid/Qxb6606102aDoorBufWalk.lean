import Derived.Test.Qxb6606102aDoorProg
import Derived.Test.Qxb6606102aDoorPlainB
import Derived.WalkKit
import Derived.WalkSpells
import Derived.WalkLawsBesides
import Derived.Lib.AppendStr
import Derived.Lib.Builder
import Derived.Laws.MakeOwn
import Derived.Laws.BytesArg
namespace Go.Proofs.Qxb6606102aDoor
open Go.RowKit

/-- v is a slice of bytes of the call's own (from block B on) that holds l. -/
def Buf (w : World) (B : Nat) (v : Value) (l : List UInt8) : Prop := w.ownsRow B 5 1 v l.length (Lib.byteCells l)
theorem info5 : (Tryd.prog.info? 5).map (fun i => (i.zero, i.size, i.bytes)) = some (some (.int .u8 0), 1, 1) := by kernel_rfl
theorem Buf.below {w w' : World} {B : Nat} {v : Value} {l : List UInt8} (h : Buf w B v l) (hb : Below w.heap.size w w') : Buf w' B v l :=
  World.ownsRow.kept (row := none) h ⟨hb.os, hb.tape, hb.output, hb.size, fun k hk _ => hb.block k hk⟩ (by cases hv : v.ownBlock <;> simp)

section
variable {ops : Array Oper} {rest : List Oper} {o : Oper} {a : Act} {Q : Exit → Act → World → Prop}

/-- append(buf, s...) -/
theorem wpList_app_str (w : World) (hgd : o.guard = none) (sl x : Operand) (ho : o.op = .call { callee := .builtin .append, args := #[sl, x], argTypes := #[32, 9] })
    (B : Nat) (v : Value) (l : List UInt8) (hs : a.eval sl = v) (hown : Buf w B v l) (s : ByteArray) (hx : a.eval x = .string s)
    (h63 : l.length + s.size ≤ 1073741824) (hbase : B ≤ w.heap.size)
    (h : ∀ v' w', Buf w' B v' (l ++ s.data.toList) → Below B w w' → wpList Tryd.prog ops Q rest (a.put o.dst v') w') : wpList Tryd.prog ops Q (o :: rest) a w := by
  obtain ⟨i0, hi, hz0, hz1, hz2⟩ := info_parts info5
  refine Lib.wpList_append_own_string w hgd sl x 32 9 ho B 5 i0 Tryd.underlying32 Tryd.underlying9 hi hz0 hz1 hz2 v l.length _ hs hown s hx (by unfold maxLen; omega) (by omega) hbase ?_
  intro v' w' h1 h2 _
  refine h v' w' ?_ ((Below.refl B w).grown h2 hbase (fun k hk => (World.ownsRow.lt hown k hk).1))
  unfold Buf
  have e : Lib.byteCells (l ++ s.data.toList) = Lib.byteCells l ++ Lib.strCells s := by simp [Lib.byteCells, Lib.strCells]
  rw [e, List.length_append, ← Lib.size_eq]
  exact h1

/-- append(buf, c): behind the one-cell block that the translation lays for c -/
theorem wpList_app_byte (w : World) (hgd : o.guard = none) (sl x : Operand) (ho : o.op = .call { callee := .builtin .append, args := #[sl, x], argTypes := #[32, 32] })
    (B : Nat) (v : Value) (l : List UInt8) (hs : a.eval sl = v) (hown : Buf w B v l) (c : UInt8) (hx : a.eval x = .slice (some ⟨w.heap.size, 0, none⟩) 1 1)
    (h63 : l.length + 1 ≤ 1073741824) (hbase : B ≤ w.heap.size)
    (h : ∀ v' w', Buf w' B v' (l ++ [c]) → Below B w w' → wpList Tryd.prog ops Q rest (a.put o.dst v') w') : wpList Tryd.prog ops Q (o :: rest) a (w.alloc (.cells #[.int .u8 (c.toNat : Int)] 5)) := by
  obtain ⟨i0, hi, hz0, hz1, hz2⟩ := info_parts info5
  refine wpList_append_own (w.alloc (.cells #[.int .u8 (c.toNat : Int)] 5)) hgd sl x 32 ho B 5 i0 (.int .u8 0) 1 1 Tryd.underlying32 hi hz0 hz1 hz2 rfl (by decide) v l.length _ hs (World.ownsRow.alloc hown _) ⟨w.heap.size, 0, none⟩ 1 1 [.int .u8 (c.toNat : Int)] hx rfl (cell_one_new _ _ _) ?_ (by unfold maxLen; omega) (by omega) (by simp; omega) ?_
  · intro u hu
    simp at hu
    subst hu
    rfl
  · intro v' w' h1 h2 _
    refine h v' w' ?_ (((Below.refl B w).alloc hbase _).grown h2 (by simp; omega) (fun k hk => (World.ownsRow.lt hown k hk).1))
    unfold Buf
    have e : Lib.byteCells (l ++ [c]) = Lib.byteCells l ++ [.int .u8 (c.toNat : Int)] := by simp [Lib.byteCells]
    rw [e, List.length_append]
    exact h1
end

theorem nums_back (l : List UInt8) : strOfNums (l.map fun b => (b.toNat : Int)) = ⟨l.toArray⟩ :=
  ByteArray.ext (Array.toList_inj.1 (by rw [strOfNums_data]; simp [Function.comp_def]))

/-- string(buf) -/
theorem run_buf_string {w : World} {B : Nat} {v : Value} {l : List UInt8} (h : Buf w B v l) : (convert 32 9 v).run Tryd.prog w = .ok (.string ⟨l.toArray⟩) w := by
  rcases h.2 with ⟨rfl, h0⟩ | ⟨g, cap, cur, rfl, _, hg, hc, _, _, htk⟩
  · have : l = [] := List.eq_nil_of_length_eq_zero h0
    subst this
    exact run_convert_bytes_nil w 32 5 Tryd.underlying32 Tryd.underlying5 _ _ 9 Tryd.underlying9
  · have := run_convert_bytes_arg (P := Tryd.prog) w 32 5 Tryd.underlying32 Tryd.underlying5 g 0 l.length cap (l.map fun b => (b.toNat : Int)) (by simp) (fun i hi => by
      have h2 : (cur.toList.take (l.length * 1))[i]? = (Lib.byteCells l)[i]? := by rw [htk]
      rw [List.getElem?_take_of_lt (by omega)] at h2
      simp only [Nat.zero_add]
      rw [Lib.cell_of_heap hg, ← Array.getElem?_toList, h2]
      simp [Lib.byteCells, hi, List.getD]) 9 Tryd.underlying9
    rw [this, nums_back]

theorem take_succ (s : ByteArray) (k : Nat) (h : k < s.size) : s.data.toList.take (k + 1) = s.data.toList.take k ++ [s[k]] := by
  rw [List.take_succ_eq_append_getElem (by simpa using h)]; rfl

set_option maxRecDepth 100000 in
set_option maxHeartbeats 1000000 in
theorem quoted_walk (B : Nat) (v : Value) (l : List UInt8) (s : ByteArray) (w : World) (hB : B ≤ w.heap.size) (hv : Buf w B v l) (hl : l.length ≤ 536870912) (hs : s.size ≤ 16777216) :
    Calls Tryd.prog 15 #[v, .string s, .bool false] w fun e w' => ∃ v', e = .returned v' ∧ Buf w' B v' (l ++ Pl.quote s.data.toList) ∧ Below B w w' := by
  go_enter Tryd.func15, Tryd.ntmps15
  go_wp2_with (at_builtin; refine wpList_app_byte _ rfl _ _ rfl B _ l rfl hv 34 rfl (by omega) hB ?_; intro v1 w1 hv1 hb1)
  have hz1 := hb1.size
  go_loopw [0, 7] (fun b i wr => ∃ k : Nat, k ≤ s.size ∧ i = .int .i64 k ∧ Buf wr B b (l ++ 34 :: Pl.escs (s.data.toList.take k)) ∧ Below B w wr) (fun _ i _ => s.size - (intOf i).toNat)
  case atStart => exact ⟨0, Nat.zero_le _, rfl, hv1, hb1⟩
  case round =>
    obtain ⟨k, hk, rfl, hbuf, hbel⟩ := hrel
    have hz := hbel.size
    have hBr : B ≤ wr.heap.size := by omega
    have hel := Pl.escs_len (s.data.toList.take k)
    have htl : (s.data.toList.take k).length ≤ k := List.length_take_le _ _
    have hlen : (l ++ 34 :: Pl.escs (s.data.toList.take k)).length + 2 ≤ 1073741824 := by simp; omega
    clear hv1 hb1 hz1 hel
    by_cases hlt : k < s.size
    · have hkz : (k : Int) < (s.size : Int) := by omega
      have hts := take_succ s k hlt
      by_cases hc : s[k] = 92 ∨ s[k] = 34
      · have HS : Hid ((l ++ 34 :: Pl.escs (s.data.toList.take k)) ++ [92] ++ [s[k]] = l ++ 34 :: Pl.escs (s.data.toList.take (k + 1))) := by
          show _ = _
          rw [hts, Pl.escs_snoc, Pl.esc, if_pos hc]; simp
        clear hts
        cases h92 : ((s[k].toNat : Int) == 92)
        · have h34 : ((s[k].toNat : Int) == 34) = true := by
            rcases hc with e | e
            · rw [e] at h92; cases h92
            · rw [e]; rfl
          go_wp2_with (at_builtin; first
            | (refine wpList_app_byte _ rfl _ _ rfl B _ _ rfl hbuf 92 rfl (by omega) hBr ?_; intro v2 w2 hv2 hb2; have hB2 := Nat.le_trans hBr hb2.size)
            | (refine wpList_app_byte _ rfl _ _ rfl B _ _ rfl hv2 s[k] rfl (by rw [List.length_append]; simp only [List.length_singleton]; omega) hB2 ?_; intro v3 w3 hv3 hb3))
          rw [HS.out] at hv3
          go_roundw
          case rel => exact ⟨k + 1, by omega, by go_num, hv3, (hbel.trans hb2).trans hb3⟩
          case measure => simp [intOf]; omega
        · go_wp2_with (at_builtin; first
            | (refine wpList_app_byte _ rfl _ _ rfl B _ _ rfl hbuf 92 rfl (by omega) hBr ?_; intro v2 w2 hv2 hb2; have hB2 := Nat.le_trans hBr hb2.size)
            | (refine wpList_app_byte _ rfl _ _ rfl B _ _ rfl hv2 s[k] rfl (by rw [List.length_append]; simp only [List.length_singleton]; omega) hB2 ?_; intro v3 w3 hv3 hb3))
          rw [HS.out] at hv3
          go_roundw
          case rel => exact ⟨k + 1, by omega, by go_num, hv3, (hbel.trans hb2).trans hb3⟩
          case measure => simp [intOf]; omega
      · have h92 : ((s[k].toNat : Int) == 92) = false := by
          rw [beq_eq_false_iff_ne]; intro e; exact hc (Or.inl (UInt8.toNat_inj.1 (by show _ = 92; omega)))
        have h34 : ((s[k].toNat : Int) == 34) = false := by
          rw [beq_eq_false_iff_ne]; intro e; exact hc (Or.inr (UInt8.toNat_inj.1 (by show _ = 34; omega)))
        have HS : Hid ((l ++ 34 :: Pl.escs (s.data.toList.take k)) ++ [s[k]] = l ++ 34 :: Pl.escs (s.data.toList.take (k + 1))) := by
          show _ = _
          rw [hts, Pl.escs_snoc, Pl.esc, if_neg hc]; simp
        clear hts hc
        go_wp2_with (at_builtin; refine wpList_app_byte _ rfl _ _ rfl B _ _ rfl hbuf s[k] rfl (by omega) hBr ?_; intro v3 w3 hv3 hb3)
        rw [HS.out] at hv3
        go_roundw
        case rel => exact ⟨k + 1, by omega, by go_num, hv3, hbel.trans hb3⟩
        case measure => simp [intOf]; omega
    · have hk' : k = s.size := by omega
      subst hk'
      have hz' : ¬ (s.size : Int) < (s.size : Int) := by omega
      go_wp2_with (at_builtin; refine wpList_app_byte _ rfl _ _ rfl B _ _ rfl hbuf 34 rfl (by omega) hBr ?_; intro v3 w3 hv3 hb3)
      go_ret
      refine ⟨_, rfl, ?_, hbel.trans hb3⟩
      rw [List.take_of_length_le (by rw [← Lib.size_eq]; exact Nat.le_refl _)] at hv3
      unfold Pl.quote
      simpa using hv3
end Go.Proofs.Qxb6606102aDoor
