import Derived.Test.Qxb6614551aDoorSmall
import Derived.BigRegion
import Derived.Carry
namespace Go.Proofs.Qxb6614551aDoor
open Go.RowKit

theorem drop_cons (S : ByteArray) (k : Nat) (h : k < S.size) : S.data.toList.drop k = S[k] :: S.data.toList.drop (k + 1) := by
  have h' : k < S.data.toList.length := by rw [← Lib.size_eq]; exact h
  rw [List.drop_eq_getElem_cons h']; rfl
theorem drop_end (S : ByteArray) : S.data.toList.drop S.size = [] := List.drop_of_length_le (by rw [Lib.size_eq]; exact Nat.le_refl _)
theorem index_run (S : ByteArray) (k : Nat) (h : k < S.size) : ∃ c : UInt8, S.data.toList.drop k = c :: S.data.toList.drop (k + 1) ∧ ∀ W, (Instr.index 9 (.string S) (.int .i64 (k : Int))).run Tryd.prog W = .ok (.int .u8 (c.toNat : Int)) W :=
  ⟨S[k], drop_cons S k h, fun W => by rw [run_index_string _ _ _ _ _ Tryd.underlying9]; simp [h]⟩
theorem beq_of {c : UInt8} {n : Nat} (h : c.toNat = n) : ((c.toNat : Int) == (n : Int)) = true := by rw [beq_iff_eq]; omega

theorem bne_of {c : UInt8} {n : Nat} (h : ¬ c.toNat = n) : ((c.toNat : Int) == (n : Int)) = false := by rw [beq_eq_false_iff_ne]; omega
theorem Sc.to2 {W : World} {bs : Nat} {f S : ByteArray} {o ln ls : Nat} (h : Sc W bs f S o ln ls) (v : Int) (o' : Nat) (hv : v = (o' : Int)) : Sc (W.setCell ⟨bs, 2, none⟩ (.int .i64 v)) bs f S o' ln ls := by rw [hv]; exact h.set2 o'
theorem Sc.drewN {W : World} {bs : Nat} {f S : ByteArray} {o ln ls : Nat} (h : Sc W bs f S o ln ls) (n : Nat) : Sc (W.drewN n) bs f S o ln ls := h
theorem skip_blank {c : UInt8} (l : List UInt8) (h : c.toNat = 32 ∨ c.toNat = 9 ∨ c.toNat = 13) : Pl.skipN false (c :: l) = 1 + Pl.skipN false l := by
  rw [Pl.skipN, if_pos]
  unfold Pl.blank
  rcases h with h | h | h
  · rw [show c = 32 from UInt8.toNat_inj.1 h]; rfl
  · rw [show c = 9 from UInt8.toNat_inj.1 h]; rfl
  · rw [show c = 13 from UInt8.toNat_inj.1 h]; rfl
theorem blank_not {c : UInt8} (h : ¬ c.toNat = 32) (h2 : ¬ c.toNat = 9) (h3 : ¬ c.toNat = 13) : ¬ Pl.blank c = true := by
  unfold Pl.blank
  simp only [Bool.or_eq_true, beq_iff_eq, not_or]
  refine ⟨⟨fun e => h (by rw [e]; rfl), fun e => h2 (by rw [e]; rfl)⟩, fun e => h3 (by rw [e]; rfl)⟩
theorem skip_hash {c : UInt8} (l : List UInt8) (h : c.toNat = 35) : Pl.skipN false (c :: l) = Pl.skipN true (c :: l) := by
  obtain rfl : c = 35 := UInt8.toNat_inj.1 h
  rfl
theorem skip_none {c : UInt8} (l : List UInt8) (h : ¬ c.toNat = 32) (h2 : ¬ c.toNat = 9) (h3 : ¬ c.toNat = 13) (h4 : ¬ c.toNat = 35) : Pl.skipN false (c :: l) = 0 := by
  rw [Pl.skipN, if_neg (blank_not h h2 h3), if_neg (fun e => h4 (by rw [e]; rfl))]
theorem skip_in {c : UInt8} (l : List UInt8) (h : ¬ c.toNat = 10) : Pl.skipN true (c :: l) = 1 + Pl.skipN true l := by
  rw [Pl.skipN, if_neg (fun e => h (by rw [e]; rfl))]
theorem skip_nl {c : UInt8} (l : List UInt8) (h : c.toNat = 10) (b : Bool) : Pl.skipN b (c :: l) = 0 := by
  obtain rfl : c = 10 := UInt8.toNat_inj.1 h
  cases b <;> rfl

theorem scan_at (S : ByteArray) (o o1 : Nat) (_ho : o ≤ o1) (h : o1 + Pl.skipN false (S.data.toList.drop o1) = o + Pl.skipN false (S.data.toList.drop o)) (h0 : Pl.skipN false (S.data.toList.drop o1) = 0) :
    Pl.scan (S.data.toList.drop o) = ((Pl.tokN (S.data.toList.drop o1)).1, (S.data.toList.drop o1).take (Pl.tokN (S.data.toList.drop o1)).2, (o1 - o) + (Pl.tokN (S.data.toList.drop o1)).2) := by
  have e1 : Pl.skipN false (S.data.toList.drop o) = o1 - o := by omega
  unfold Pl.scan
  rw [e1, List.drop_drop, show o + (o1 - o) = o1 by omega]
theorem alloc_at (w : World) (x : Obj) : (w.alloc x).heap[w.heap.size]? = some x := (MapKept.heap_alloc w x).1

theorem blk_cell {W : World} {b : Nat} {cs : Array Value} {t : TypeId} (h : W.heap[b]? = some (.cells cs t)) (k : Nat) : W.cell? ⟨b, k, none⟩ = cs[k]? := by simp [World.cell?, h]
theorem blk_frozen {W : World} {b : Nat} {cs : Array Value} {t : TypeId} (h : W.heap[b]? = some (.cells cs t)) (k : Nat) : W.frozen? ⟨b, k, none⟩ = false := by simp [World.frozen?, h]
theorem Sc.other {W : World} {bs : Nat} {f S : ByteArray} {o ln ls : Nat} (h : Sc W bs f S o ln ls) {p : Addr} (hp : bs ≠ p.block) (u : Value) : Sc (W.setCell p u) bs f S o ln ls := (Below.heap_setCell W p u bs hp).trans h
theorem Kp.setNew {bs : Nat} {a w : World} (h : Kp bs a w) {p : Addr} (hp : a.heap.size ≤ p.block) (u : Value) : Kp bs a (w.setCell p u) := by
  have hb := (Below.refl p.block w).setCell (p := p) (Nat.le_refl _) u
  exact ⟨hb.os.trans h.os, hb.tape.trans h.tape, hb.output.trans h.output, Nat.le_trans h.size hb.size, fun k hk hn => (Below.heap_setCell w p u k (by omega)).trans (h.block k hk hn)⟩

theorem Sc.to3 {W : World} {bs : Nat} {f S : ByteArray} {o ln ls : Nat} (h : Sc W bs f S o ln ls) (v : Int) (n : Nat) (hv : v = (n : Int)) : Sc (W.setCell ⟨bs, 3, none⟩ (.int .i64 v)) bs f S o n ls := by rw [hv]; exact h.set3 n
theorem Sc.to4 {W : World} {bs : Nat} {f S : ByteArray} {o ln ls : Nat} (h : Sc W bs f S o ln ls) (v : Int) (n : Nat) (hv : v = (n : Int)) : Sc (W.setCell ⟨bs, 4, none⟩ (.int .i64 v)) bs f S o ln n := by rw [hv]; exact h.set4 n
/-- The scanner, the result's slot and the position, while a token is read. -/
structure St (w : World) (bs pb : Nat) (f S : ByteArray) (o ln ls : Nat) (col : Int) (W : World) : Prop where
  sc : Sc W bs f S o ln ls
  kp : Kp bs w W
  rb : W.heap[w.heap.size]? = some (.cells #[.int .i64 0, .string ⟨#[]⟩, .string ⟨#[]⟩, .int .i64 0, .int .i64 0] 32)
  ps : W.heap[pb]? = some (.cells #[.string f, .int .i64 (ln : Int), .int .i64 col] 30)
  ne : bs < w.heap.size ∧ w.heap.size < pb
theorem St.drewN {w : World} {bs pb : Nat} {f S : ByteArray} {o ln ls : Nat} {col : Int} {W : World} (h : St w bs pb f S o ln ls col W) (n : Nat) : St w bs pb f S o ln ls col (W.drewN n) := ⟨h.sc, h.kp.drewN n, h.rb, h.ps, h.ne⟩
theorem St.off {w : World} {bs pb : Nat} {f S : ByteArray} {o ln ls : Nat} {col : Int} {W : World} (h : St w bs pb f S o ln ls col W) (v : Int) (o' : Nat) (hv : v = (o' : Int)) : St w bs pb f S o' ln ls col (W.setCell ⟨bs, 2, none⟩ (.int .i64 v)) :=
  have h1 := h.ne
  ⟨h.sc.to2 v o' hv, h.kp.setCell rfl _, (Below.heap_setCell W _ _ _ (by show w.heap.size ≠ bs; omega)).trans h.rb, (Below.heap_setCell W _ _ _ (by show pb ≠ bs; omega)).trans h.ps, h.ne⟩
theorem St.below {w : World} {bs pb : Nat} {f S : ByteArray} {o ln ls : Nat} {col : Int} {W W' : World} (h : St w bs pb f S o ln ls col W) (hb : Below W.heap.size W W') : St w bs pb f S o ln ls col W' :=
  ⟨h.sc.below hb, h.kp.trans (Kp.of_below hb), (hb.block _ (Array.getElem?_eq_some_iff.1 h.rb).1).trans h.rb, (hb.block _ (Array.getElem?_eq_some_iff.1 h.ps).1).trans h.ps, h.ne⟩
theorem letter_c (d : UInt8) (B : Bool) (h : Pl.isLet d = B) (w : World) : Calls Tryd.prog 22 #[.int .u8 (d.toNat : Int)] w fun e w' => e = .returned (.bool B) ∧ w' = w := h ▸ letter_walk d w
theorem digit_c (d : UInt8) (B : Bool) (h : Pl.isDig d = B) (w : World) : Calls Tryd.prog 23 #[.int .u8 (d.toNat : Int)] w fun e w' => e = .returned (.bool B) ∧ w' = w := h ▸ digit_walk d w
def tw (p : UInt8 → Bool) (S : ByteArray) (k : Nat) : Nat := ((S.data.toList.drop k).takeWhile p).length
theorem tw_yes {p : UInt8 → Bool} {S : ByteArray} {k : Nat} {d : UInt8} (hd : S.data.toList.drop k = d :: S.data.toList.drop (k + 1)) (h : p d = true) : tw p S k = 1 + tw p S (k + 1) := by
  unfold tw; rw [hd, List.takeWhile_cons, h]; simp; omega
theorem tw_no {p : UInt8 → Bool} {S : ByteArray} {k : Nat} {d : UInt8} (hd : S.data.toList.drop k = d :: S.data.toList.drop (k + 1)) (h : p d = false) : tw p S k = 0 := by
  unfold tw; rw [hd, List.takeWhile_cons, h]; simp
theorem tw_end {p : UInt8 → Bool} {S : ByteArray} {k : Nat} (h : ¬ k < S.size) : tw p S k = 0 := by
  unfold tw; rw [List.drop_of_length_le (by rw [← Lib.size_eq]; omega)]; rfl
theorem text_of (S : ByteArray) (a b : Nat) : (S.extract a b).data.toList = (S.data.toList.drop a).take (b - a) := Lib.extract_data S a b
theorem not_nl {c : UInt8} (h : ¬ c.toNat = 10) : ¬ c = 10 := fun e => h (by rw [e]; rfl)
theorem tok_let {c : UInt8} {S : ByteArray} {k : Nat} (hd : S.data.toList.drop k = c :: S.data.toList.drop (k + 1)) (h10 : ¬ c.toNat = 10) (hl : Pl.isLet c = true) : Pl.tokN (S.data.toList.drop k) = (2, tw Pl.identC S k) := by
  rw [tw_yes hd (by unfold Pl.identC; rw [hl]; rfl), hd, Pl.tokN, if_neg (not_nl h10), if_pos hl]; rfl
theorem tok_dig {c : UInt8} {S : ByteArray} {k : Nat} (hd : S.data.toList.drop k = c :: S.data.toList.drop (k + 1)) (h10 : ¬ c.toNat = 10) (hl : ¬ Pl.isLet c = true) (hg : Pl.isDig c = true) : Pl.tokN (S.data.toList.drop k) = (3, tw Pl.alnum S k) := by
  rw [tw_yes hd (by unfold Pl.alnum; rw [hg, Bool.or_true]), hd, Pl.tokN, if_neg (not_nl h10), if_neg hl, if_pos hg]; rfl

def NextOut (bs : Nat) (f S : ByteArray) (o : Nat) (w : World) (e : Ending) (w' : World) : Prop :=
  ∃ (K : Nat) (T : ByteArray) (o' ln' ls' : Nat) (pf : ByteArray) (pl pc : Int), e = .returned (.agg #[.int .i64 (K : Int), .string T, .string pf, .int .i64 pl, .int .i64 pc]) ∧
    K = (Pl.scan (S.data.toList.drop o)).1 ∧ T.data.toList = (Pl.scan (S.data.toList.drop o)).2.1 ∧ o' = o + (Pl.scan (S.data.toList.drop o)).2.2 ∧ o' ≤ S.size ∧ ln' ≤ o' + 1 ∧ ls' ≤ o' ∧ Sc w' bs f S o' ln' ls' ∧ Kp bs w w'

end Go.Proofs.Qxb6614551aDoor
