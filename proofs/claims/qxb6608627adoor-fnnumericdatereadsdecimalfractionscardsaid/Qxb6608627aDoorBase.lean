import Derived.Test.Qxb6608627aDoorProg
import Derived.WalkKit
import Derived.WalkSpells
import Derived.WalkLawsBesides
import Derived.WalkMore
import Derived.Laws.NewBlocks
import Derived.Deep.LoopGhost
import Derived.Deep.QuietTactic
import Derived.BigQuiet
import Derived.Handy
import Derived.Below
import Derived.Carry
namespace Go.Proofs.Qxb6608627aDoor
open Go.RowKit

/-- From w to w' the block bs alone may have turned. -/
structure Kp (bs : Nat) (w w' : World) : Prop where
  os : w'.os = w.os
  tape : w'.tape = w.tape
  output : w'.output = w.output
  size : w.heap.size ≤ w'.heap.size
  block : ∀ k, k < w.heap.size → k ≠ bs → w'.heap[k]? = w.heap[k]?
theorem Kp.refl (bs : Nat) (w : World) : Kp bs w w := ⟨rfl, rfl, rfl, Nat.le_refl _, fun _ _ _ => rfl⟩
theorem Kp.trans {bs : Nat} {a b c : World} (h : Kp bs a b) (k : Kp bs b c) : Kp bs a c :=
  ⟨k.os.trans h.os, k.tape.trans h.tape, k.output.trans h.output, Nat.le_trans h.size k.size, fun j hj hn => (k.block j (Nat.lt_of_lt_of_le hj h.size) hn).trans (h.block j hj hn)⟩
theorem Kp.drewN {bs : Nat} {a w : World} (h : Kp bs a w) (n : Nat) : Kp bs a (w.drewN n) := h.trans ⟨rfl, rfl, rfl, Nat.le_refl _, fun _ _ _ => rfl⟩
theorem Kp.setCell {bs : Nat} {a w : World} (h : Kp bs a w) {p : Addr} (hp : p.block = bs) (u : Value) : Kp bs a (w.setCell p u) := by
  have hb := (Below.refl p.block w).setCell (p := p) (Nat.le_refl _) u
  exact h.trans ⟨hb.os, hb.tape, hb.output, hb.size, fun k _ hn => Below.heap_setCell w p u k (by rw [hp]; exact hn)⟩
theorem Kp.below {bs B : Nat} {w w' : World} (h : Kp bs w w') (h1 : B ≤ bs) (h2 : B ≤ w.heap.size) : Below B w w' :=
  ⟨h.os, h.tape, h.output, h.size, fun k hk => h.block k (Nat.lt_of_lt_of_le hk h2) (by omega)⟩

/-- the decimal: 800 bytes, how many count, the point, the mark -/
structure Dec where
  d : Nat → Nat
  nd : Nat
  dp : Int
  tr : Bool
def put (d : Nat → Nat) (i v : Nat) : Nat → Nat := fun j => if j = i then v else d j
theorem put_same (d : Nat → Nat) (i v : Nat) : put d i v i = v := if_pos rfl
theorem put_other (d : Nat → Nat) {i j : Nat} (v : Nat) (h : j ≠ i) : put d i v j = d j := if_neg h
/-- block b holds the decimal -/
def DecAt (W : World) (b : Nat) (d : Nat → Nat) (nd dp : Int) (tr : Bool) : Prop :=
  ∃ cs : Array Value, W.heap[b]? = some (.cells cs 70) ∧ cs.size = 804 ∧ (∀ i, i < 800 → cs[i]? = some (.int .u8 (d i : Int))) ∧ cs[800]? = some (.int .i64 nd) ∧ cs[801]? = some (.int .i64 dp) ∧ cs[802]? = some (.bool false) ∧ cs[803]? = some (.bool tr)
section
variable {W : World} {b : Nat} {d : Nat → Nat} {nd dp : Int} {tr : Bool}
theorem DecAt.cd (h : DecAt W b d nd dp tr) {i : Nat} (hi : i < 800) : W.cell? ⟨b, i, none⟩ = some (.int .u8 (d i : Int)) := by
  obtain ⟨cs, h0, _, h2, _⟩ := h
  simp [World.cell?, h0, h2 i hi]
theorem DecAt.cnd (h : DecAt W b d nd dp tr) : W.cell? ⟨b, 800, none⟩ = some (.int .i64 nd) := by
  obtain ⟨cs, h0, _, _, h3, _⟩ := h
  simp [World.cell?, h0, h3]
theorem DecAt.cdp (h : DecAt W b d nd dp tr) : W.cell? ⟨b, 801, none⟩ = some (.int .i64 dp) := by
  obtain ⟨cs, h0, _, _, _, h4, _⟩ := h
  simp [World.cell?, h0, h4]
theorem DecAt.cneg (h : DecAt W b d nd dp tr) : W.cell? ⟨b, 802, none⟩ = some (.bool false) := by
  obtain ⟨cs, h0, _, _, _, _, h5, _⟩ := h
  simp [World.cell?, h0, h5]
theorem DecAt.ctr (h : DecAt W b d nd dp tr) : W.cell? ⟨b, 803, none⟩ = some (.bool tr) := by
  obtain ⟨cs, h0, _, _, _, _, _, h6⟩ := h
  simp [World.cell?, h0, h6]
theorem DecAt.fr (h : DecAt W b d nd dp tr) (k : Nat) : W.frozen? ⟨b, k, none⟩ = false := by
  obtain ⟨cs, h0, _⟩ := h
  simp [World.frozen?, h0]
theorem DecAt.lt (h : DecAt W b d nd dp tr) : b < W.heap.size := by
  obtain ⟨cs, h0, _⟩ := h
  exact (Array.getElem?_eq_some_iff.1 h0).1
theorem DecAt.drewN (h : DecAt W b d nd dp tr) (n : Nat) : DecAt (W.drewN n) b d nd dp tr := h
theorem set_block {cs : Array Value} {t : TypeId} (h : W.heap[b]? = some (.cells cs t)) (k : Nat) (u : Value) : (W.setCell ⟨b, k, none⟩ u).heap[b]? = some (.cells (cs.setIfInBounds k u) t) := by
  simp only [World.setCell, Array.getElem?_modify, if_true, h]
  rfl
theorem DecAt.setD (h : DecAt W b d nd dp tr) {i : Nat} (hi : i < 800) (v : Nat) (z : Int) (hz : z = (v : Int)) : DecAt (W.setCell ⟨b, i, none⟩ (.int .u8 z)) b (put d i v) nd dp tr := by
  obtain ⟨cs, h0, h1, h2, h3, h4, h5, h6⟩ := h
  subst hz
  refine ⟨_, set_block h0 _ _, by rw [Array.size_setIfInBounds]; exact h1, fun j hj => ?_, ?_, ?_, ?_, ?_⟩
  · by_cases e : j = i
    · subst e
      rw [put_same, Array.getElem?_setIfInBounds_self_of_lt (by omega)]
    · rw [put_other _ _ e, Array.getElem?_setIfInBounds_ne (by omega)]
      exact h2 j hj
  · rw [Array.getElem?_setIfInBounds_ne (by omega)]; exact h3
  · rw [Array.getElem?_setIfInBounds_ne (by omega)]; exact h4
  · rw [Array.getElem?_setIfInBounds_ne (by omega)]; exact h5
  · rw [Array.getElem?_setIfInBounds_ne (by omega)]; exact h6
theorem DecAt.setNd (h : DecAt W b d nd dp tr) (z : Int) : DecAt (W.setCell ⟨b, 800, none⟩ (.int .i64 z)) b d z dp tr := by
  obtain ⟨cs, h0, h1, h2, h3, h4, h5, h6⟩ := h
  refine ⟨_, set_block h0 _ _, by rw [Array.size_setIfInBounds]; exact h1, fun j hj => ?_, ?_, ?_, ?_, ?_⟩
  · rw [Array.getElem?_setIfInBounds_ne (by omega)]; exact h2 j hj
  · rw [Array.getElem?_setIfInBounds_self_of_lt (by omega)]
  · rw [Array.getElem?_setIfInBounds_ne (by omega)]; exact h4
  · rw [Array.getElem?_setIfInBounds_ne (by omega)]; exact h5
  · rw [Array.getElem?_setIfInBounds_ne (by omega)]; exact h6
theorem DecAt.setDp (h : DecAt W b d nd dp tr) (z : Int) : DecAt (W.setCell ⟨b, 801, none⟩ (.int .i64 z)) b d nd z tr := by
  obtain ⟨cs, h0, h1, h2, h3, h4, h5, h6⟩ := h
  refine ⟨_, set_block h0 _ _, by rw [Array.size_setIfInBounds]; exact h1, fun j hj => ?_, ?_, ?_, ?_, ?_⟩
  · rw [Array.getElem?_setIfInBounds_ne (by omega)]; exact h2 j hj
  · rw [Array.getElem?_setIfInBounds_ne (by omega)]; exact h3
  · rw [Array.getElem?_setIfInBounds_self_of_lt (by omega)]
  · rw [Array.getElem?_setIfInBounds_ne (by omega)]; exact h5
  · rw [Array.getElem?_setIfInBounds_ne (by omega)]; exact h6
theorem DecAt.toNd (h : DecAt W b d nd dp tr) (z n : Int) (hz : z = n) : DecAt (W.setCell ⟨b, 800, none⟩ (.int .i64 z)) b d n dp tr := hz ▸ h.setNd z
theorem DecAt.toDp (h : DecAt W b d nd dp tr) (z n : Int) (hz : z = n) : DecAt (W.setCell ⟨b, 801, none⟩ (.int .i64 z)) b d nd n tr := hz ▸ h.setDp z
theorem DecAt.setTr (h : DecAt W b d nd dp tr) (z : Bool) : DecAt (W.setCell ⟨b, 803, none⟩ (.bool z)) b d nd dp z := by
  obtain ⟨cs, h0, h1, h2, h3, h4, h5, h6⟩ := h
  refine ⟨_, set_block h0 _ _, by rw [Array.size_setIfInBounds]; exact h1, fun j hj => ?_, ?_, ?_, ?_, ?_⟩
  · rw [Array.getElem?_setIfInBounds_ne (by omega)]; exact h2 j hj
  · rw [Array.getElem?_setIfInBounds_ne (by omega)]; exact h3
  · rw [Array.getElem?_setIfInBounds_ne (by omega)]; exact h4
  · rw [Array.getElem?_setIfInBounds_ne (by omega)]; exact h5
  · rw [Array.getElem?_setIfInBounds_self_of_lt (by omega)]
theorem DecAt.setNeg (h : DecAt W b d nd dp tr) : DecAt (W.setCell ⟨b, 802, none⟩ (.bool false)) b d nd dp tr := by
  obtain ⟨cs, h0, h1, h2, h3, h4, h5, h6⟩ := h
  refine ⟨_, set_block h0 _ _, by rw [Array.size_setIfInBounds]; exact h1, fun j hj => ?_, ?_, ?_, ?_, ?_⟩
  · rw [Array.getElem?_setIfInBounds_ne (by omega)]; exact h2 j hj
  · rw [Array.getElem?_setIfInBounds_ne (by omega)]; exact h3
  · rw [Array.getElem?_setIfInBounds_ne (by omega)]; exact h4
  · rw [Array.getElem?_setIfInBounds_self_of_lt (by omega)]
  · rw [Array.getElem?_setIfInBounds_ne (by omega)]; exact h6
theorem DecAt.below {W' : World} (h : DecAt W b d nd dp tr) (hb : Below W.heap.size W W') : DecAt W' b d nd dp tr := by
  have hl := h.lt
  obtain ⟨cs, h0, r⟩ := h
  exact ⟨cs, (hb.block b hl).trans h0, r⟩
end
end Go.Proofs.Qxb6608627aDoor
