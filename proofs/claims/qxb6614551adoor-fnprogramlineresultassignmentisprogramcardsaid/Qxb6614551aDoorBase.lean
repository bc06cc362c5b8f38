import Derived.Test.Qxb6614551aDoorShelf
import Derived.WalkKit
import Derived.WalkSpells
import Derived.WalkLawsBesides
import Derived.WalkMore
import Derived.Laws.NewBlocks
import Derived.Deep.LoopGhost
import Derived.Maps.RangeWalk
import Derived.Deep.QuietTactic
import Derived.BigQuiet
import Derived.Handy
import Derived.Laws.Concat
import Derived.Below
namespace Go.Proofs.Qxb6614551aDoor
open Go.RowKit

/-- From w to w' the block bs alone may have turned. -/
structure Kp (bs : Nat) (w w' : World) : Prop where
  os : w'.os = w.os
  tape : w'.tape = w.tape
  output : w'.output = w.output
  size : w.heap.size ≤ w'.heap.size
  block : ∀ k, k < w.heap.size → k ≠ bs → w'.heap[k]? = w.heap[k]?
theorem Kp.refl (bs : Nat) (w : World) : Kp bs w w := ⟨rfl, rfl, rfl, Nat.le_refl _, fun _ _ _ => rfl⟩
theorem Kp.trans {bs : Nat} {a b c : World} (h : Kp bs a b) (k : Kp bs b c) : Kp bs a c :=
  ⟨k.os.trans h.os, k.tape.trans h.tape, k.output.trans h.output, Nat.le_trans h.size k.size, fun j hj hn => (k.block j (Nat.lt_of_lt_of_le hj h.size) hn).trans (h.block j hj hn)⟩
theorem Kp.of_below {bs : Nat} {w w' : World} (h : Below w.heap.size w w') : Kp bs w w' := ⟨h.os, h.tape, h.output, h.size, fun k hk _ => h.block k hk⟩
theorem Kp.alloc {bs : Nat} {a w : World} (h : Kp bs a w) (o : Obj) : Kp bs a (w.alloc o) := h.trans (Kp.of_below ((Below.refl _ w).alloc (Nat.le_refl _) o))
theorem Kp.drewN {bs : Nat} {a w : World} (h : Kp bs a w) (n : Nat) : Kp bs a (w.drewN n) := h.trans ⟨rfl, rfl, rfl, Nat.le_refl _, fun _ _ _ => rfl⟩
theorem Kp.setCell {bs : Nat} {a w : World} (h : Kp bs a w) {p : Addr} (hp : p.block = bs) (u : Value) : Kp bs a (w.setCell p u) := by
  have hb := (Below.refl p.block w).setCell (p := p) (Nat.le_refl _) u
  exact h.trans ⟨hb.os, hb.tape, hb.output, hb.size, fun k _ hn => Below.heap_setCell w p u k (by rw [hp]; exact hn)⟩
theorem Kp.below {bs B : Nat} {w w' : World} (h : Kp bs w w') (h1 : B ≤ bs) (h2 : B ≤ w.heap.size) : Below B w w' :=
  ⟨h.os, h.tape, h.output, h.size, fun k hk => h.block k (Nat.lt_of_lt_of_le hk h2) (by omega)⟩

/-- The scanner at block bs. -/
def Sc (W : World) (bs : Nat) (f S : ByteArray) (o ln ls : Nat) : Prop := W.heap[bs]? = some (.cells #[.string f, .string S, .int .i64 (o : Int), .int .i64 (ln : Int), .int .i64 (ls : Int)] 40)
theorem Sc.c0 {W : World} {bs : Nat} {f S : ByteArray} {o ln ls : Nat} (h : Sc W bs f S o ln ls) : W.cell? ⟨bs, 0, none⟩ = some (.string f) := by unfold Sc at h; simp [World.cell?, h]
theorem Sc.c1 {W : World} {bs : Nat} {f S : ByteArray} {o ln ls : Nat} (h : Sc W bs f S o ln ls) : W.cell? ⟨bs, 1, none⟩ = some (.string S) := by unfold Sc at h; simp [World.cell?, h]
theorem Sc.c2 {W : World} {bs : Nat} {f S : ByteArray} {o ln ls : Nat} (h : Sc W bs f S o ln ls) : W.cell? ⟨bs, 2, none⟩ = some (.int .i64 (o : Int)) := by unfold Sc at h; simp [World.cell?, h]
theorem Sc.c3 {W : World} {bs : Nat} {f S : ByteArray} {o ln ls : Nat} (h : Sc W bs f S o ln ls) : W.cell? ⟨bs, 3, none⟩ = some (.int .i64 (ln : Int)) := by unfold Sc at h; simp [World.cell?, h]
theorem Sc.c4 {W : World} {bs : Nat} {f S : ByteArray} {o ln ls : Nat} (h : Sc W bs f S o ln ls) : W.cell? ⟨bs, 4, none⟩ = some (.int .i64 (ls : Int)) := by unfold Sc at h; simp [World.cell?, h]
theorem Sc.fr {W : World} {bs : Nat} {f S : ByteArray} {o ln ls : Nat} (h : Sc W bs f S o ln ls) (k : Nat) : W.frozen? ⟨bs, k, none⟩ = false := by unfold Sc at h; simp [World.frozen?, h]
theorem Sc.lt {W : World} {bs : Nat} {f S : ByteArray} {o ln ls : Nat} (h : Sc W bs f S o ln ls) : bs < W.heap.size := (Array.getElem?_eq_some_iff.1 h).1
theorem Sc.set2 {W : World} {bs : Nat} {f S : ByteArray} {o ln ls : Nat} (h : Sc W bs f S o ln ls) (o' : Nat) : Sc (W.setCell ⟨bs, 2, none⟩ (.int .i64 (o' : Int))) bs f S o' ln ls := by
  unfold Sc at h ⊢
  simp only [World.setCell, Array.getElem?_modify, if_true, h]
  rfl
theorem Sc.set3 {W : World} {bs : Nat} {f S : ByteArray} {o ln ls : Nat} (h : Sc W bs f S o ln ls) (n : Nat) : Sc (W.setCell ⟨bs, 3, none⟩ (.int .i64 (n : Int))) bs f S o n ls := by
  unfold Sc at h ⊢
  simp only [World.setCell, Array.getElem?_modify, if_true, h]
  rfl
theorem Sc.set4 {W : World} {bs : Nat} {f S : ByteArray} {o ln ls : Nat} (h : Sc W bs f S o ln ls) (n : Nat) : Sc (W.setCell ⟨bs, 4, none⟩ (.int .i64 (n : Int))) bs f S o ln n := by
  unfold Sc at h ⊢
  simp only [World.setCell, Array.getElem?_modify, if_true, h]
  rfl
theorem Sc.below {W W' : World} {bs : Nat} {f S : ByteArray} {o ln ls : Nat} (h : Sc W bs f S o ln ls) (hb : Below W.heap.size W W') : Sc W' bs f S o ln ls := (hb.block bs h.lt).trans h
theorem Sc.alloc {W : World} {bs : Nat} {f S : ByteArray} {o ln ls : Nat} (h : Sc W bs f S o ln ls) (x : Obj) : Sc (W.alloc x) bs f S o ln ls := h.below ((Below.refl _ W).alloc (Nat.le_refl _) x)
end Go.Proofs.Qxb6614551aDoor
