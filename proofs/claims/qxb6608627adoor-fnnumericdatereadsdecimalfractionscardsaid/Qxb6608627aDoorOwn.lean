import Derived.Test.Qxb6608627aDoorFew
import Derived.Lib.JoinLaws
import Derived.Deep.MidRow
namespace Go.Proofs.Qxb6608627aDoor
open Go.RowKit

def bc (l : List UInt8) : List Value := l.map fun c => Value.int .u8 (c.toNat : Int)
theorem bc_len (l : List UInt8) : (bc l).length = l.length := by simp [bc]
theorem bc_one (l : List UInt8) : ∀ u ∈ bc l, u.oneCell' = true := by
  intro u hu
  obtain ⟨_, _, rfl⟩ := List.mem_map.1 hu
  rfl
/-- a row of the call's own: its first cells hold l -/
structure Own (w : World) (g cap : Nat) (l : List UInt8) : Prop where
  lt : g < w.heap.size
  is : ∀ j, j < cap → (w.cell? ⟨g, j, none⟩).isSome = true
  fz : ∀ j, j < cap → w.frozen? ⟨g, j, none⟩ = false
  at' : ∀ (j : Nat) (x : UInt8), l[j]? = some x → w.cell? ⟨g, j, none⟩ = some (.int .u8 (x.toNat : Int))
  len : l.length ≤ cap
theorem Own.of_block {w w' : World} {g cap : Nat} {l : List UInt8} (h : Own w g cap l) (hs : w.heap.size ≤ w'.heap.size) (e : w'.heap[g]? = w.heap[g]?) : Own w' g cap l := by
  have c : ∀ j, w'.cell? ⟨g, j, none⟩ = w.cell? ⟨g, j, none⟩ := fun j => by simp only [World.cell?, e]
  have f : ∀ j, w'.frozen? ⟨g, j, none⟩ = w.frozen? ⟨g, j, none⟩ := fun j => by simp only [World.frozen?, e]
  exact ⟨Nat.lt_of_lt_of_le h.lt hs, fun j hj => by rw [c]; exact h.is j hj, fun j hj => by rw [f]; exact h.fz j hj, fun j x hx => by rw [c]; exact h.at' j x hx, h.len⟩
theorem Own.below {w w' : World} {g cap : Nat} {l : List UInt8} (h : Own w g cap l) (hb : Below w.heap.size w w') : Own w' g cap l := h.of_block hb.size (hb.block g h.lt)
theorem Own.kp {w w' : World} {g cap g' : Nat} {l : List UInt8} (h : Own w g cap l) (hk : Kp g' w w') (hne : g ≠ g') : Own w' g cap l := h.of_block hk.size (hk.block g h.lt hne)
theorem Own.alloc {w : World} {g cap : Nat} {l : List UInt8} (h : Own w g cap l) (o : Obj) : Own (w.alloc o) g cap l := h.below ((Below.refl _ w).alloc (Nat.le_refl _) o)
theorem kp_setCells (g : Nat) : ∀ (vs : List Value) (o : Nat) (a w : World), Kp g a w → Kp g a (w.setCells g o vs)
  | [], _, _, _, h => h
  | v :: r, o, a, _, h => kp_setCells g r (o + 1) a _ (h.setCell (p := ⟨g, o, none⟩) rfl v)
theorem Own.app {w : World} {g cap : Nat} {l : List UInt8} (h : Own w g cap l) (L : List UInt8) (hr : l.length + L.length ≤ cap) : Own (w.setCells g (0 + l.length) (bc L)) g cap (l ++ L) := by
  have hk := kp_setCells g (bc L) (0 + l.length) w w (Kp.refl _ _)
  refine ⟨Nat.lt_of_lt_of_le h.lt hk.size, fun j hj => World.isSome_setCells g _ _ w _ (h.is j hj), fun j hj => by rw [World.frozen?_setCells]; exact h.fz j hj, fun j x hx => ?_, by rw [List.length_append]; omega⟩
  by_cases hj : j < l.length
  · rw [List.getElem?_append_left hj] at hx
    rw [World.cell?_setCells_out g (bc L) _ w ⟨g, j, none⟩ (fun _ _ => Or.inl (by show j < 0 + l.length; omega))]
    exact h.at' j x hx
  · rw [List.getElem?_append_right (by omega)] at hx
    have hj2 : j - l.length < L.length := (List.getElem?_eq_some_iff.1 hx).1
    have e := World.cell?_setCells_in g (bc L) (0 + l.length) w (fun i hi => by rw [bc_len] at hi; exact h.is _ (by omega)) (j - l.length) (by rw [bc_len]; exact hj2)
    rw [show 0 + l.length + (j - l.length) = j by omega] at e
    rw [e]
    have e2 : (bc L)[j - l.length]? = some (.int .u8 (x.toNat : Int)) := by simp [bc, hx]
    rw [← e2]
    exact (List.getElem?_eq_getElem _).symm
theorem own_new (w : World) (c : Nat) : Own (w.alloc (.cells (madeCells #[.int .u8 0] c) 5)) w.heap.size c [] := by
  have e : (w.alloc (.cells (madeCells #[.int .u8 0] c) 5)).heap[w.heap.size]? = some (.cells (madeCells #[.int .u8 0] c) 5 (0, 0)) := heap_alloc_new w _
  have hsz : (madeCells #[Value.int .u8 0] c).size = c := by rw [size_madeCells]
  refine ⟨by simp, fun j hj => ?_, fun j hj => ?_, fun j x hx => by simp at hx, Nat.zero_le _⟩
  · simp only [World.cell?, e]
    rw [Array.getElem?_eq_getElem (by omega)]
    rfl
  · simp only [World.frozen?, e]
    simp
theorem Own.bytes {w : World} {g cap : Nat} {l : List UInt8} (h : Own w g cap l) (s : ByteArray) (hs : s.data.toList = l) : Lib.Bytes w g 0 s := fun i hi => by
  rw [Nat.zero_add]
  exact h.at' i _ (by rw [← hs]; exact Go.Proofs.byte_at s i hi)
theorem Own.src {w : World} {g cap : Nat} {l : List UInt8} (h : Own w g cap l) : Src Tryd.prog 1 22 (.slice (some ⟨g, 0, none⟩) l.length cap) l.length (bc l) w :=
  Src.ofSlice w Tryd.underlying22 _ _ _ _ (by rw [bc_len, Nat.mul_one]) (fun j u hu => by
    rw [Addr.add_lit, Nat.zero_add]
    simp only [bc, List.getElem?_map, Option.map_eq_some_iff] at hu
    obtain ⟨x, hx, rfl⟩ := hu
    exact h.at' j x hx) (bc_one l)
theorem Sl.src {w : World} {A : Option Addr} {l : List UInt8} (h : Sl w A (l.map fun c => c.toNat)) (cap : Nat) : Src Tryd.prog 1 22 (.slice A l.length cap) l.length (bc l) w := by
  cases A with
  | none =>
    have : l = [] := by
      rcases h.ex with h | ⟨_, _, h, _⟩
      · simpa using h
      · cases h
    subst this
    exact Src.ofNil w Tryd.underlying22 cap
  | some a =>
    refine Src.ofSlice w Tryd.underlying22 _ _ _ _ (by rw [bc_len, Nat.mul_one]) (fun j u hu => ?_) (bc_one l)
    simp only [bc, List.getElem?_map, Option.map_eq_some_iff] at hu
    obtain ⟨x, hx, rfl⟩ := hu
    rcases h.ex with h | ⟨b, off, h1, h2⟩
    · have : l = [] := by simpa using h
      subst this; simp at hx
    · cases h1
      rw [Addr.add_lit]
      exact h2 j x.toNat (by simp [hx])
theorem Sl.below {w w' : World} {A : Option Addr} {l : List Nat} (h : Sl w A l) (hb : Below w.heap.size w w') : Sl w' A l := by
  refine ⟨?_, h.byte⟩
  rcases h.ex with h1 | ⟨b, off, h1, h2⟩
  · exact Or.inl h1
  · exact Or.inr ⟨b, off, h1, fun i x hx => by
      have e := h2 i x hx
      have hlt : b < w.heap.size := Lib.lt_of_cell e
      rw [below_cell hb hlt]; exact e⟩
theorem one_src (w : World) (c : UInt8) (v : Int) (hv : v = (c.toNat : Int)) : Src Tryd.prog 1 22 (.slice (some ⟨w.heap.size, 0, none⟩) 1 1) 1 (bc [c]) (w.alloc (.cells #[.int .u8 v] 5)) := by
  subst hv
  exact Src.ofSlice _ Tryd.underlying22 _ _ _ _ rfl (cell_one_new _ _ _) (bc_one [c])
theorem info5 : (Tryd.prog.info? 5).map (fun i => (i.zero, i.size, i.bytes)) = some (some (.int .u8 0), 1, 1) := by kernel_rfl
section
variable {ops : Array Oper} {rest : List Oper} {o : Oper} {a : Act} {Q : Exit → Act → World → Prop}
/-- append, where there is room -/
theorem wpList_app (w : World) (hgd : o.guard = none) (sl x : Operand) (ho : o.op = .call { callee := .builtin .append, args := #[sl, x], argTypes := #[22, 22] })
    (g cap : Nat) (l : List UInt8) (n : Nat) (hn : l.length = n) (hs : a.eval sl = .slice (some ⟨g, 0, none⟩) n cap) (hO : Own w g cap l) (xv : Value) (hx : a.eval x = xv) (L : List UInt8) (m : Nat) (hm : L.length = m) (hsrc : Src Tryd.prog 1 22 xv m (bc L) w) (r : Nat) (hr : n + m = r) (hroom : r ≤ cap)
    (h : ∀ w', Own w' g cap (l ++ L) → Kp g w w' → wpList Tryd.prog ops Q rest (a.put o.dst (.slice (some ⟨g, 0, none⟩) r cap)) w') : wpList Tryd.prog ops Q (o :: rest) a w := by
  subst hn hm hr
  refine wpList_append_room1 w hgd sl x 22 22 ho 5 (.int .u8 0) 1 Tryd.underlying22 info5 g 0 l.length cap hs xv hx L.length (bc L) hsrc hroom (fun j hj => ?_) (fun j hj => ?_) ?_
  · rw [bc_len] at hj; exact hO.is _ (by omega)
  · rw [bc_len] at hj; exact hO.fz _ (by omega)
  · exact h _ (hO.app L hroom) (kp_setCells g _ _ w w (Kp.refl _ _))
end
end Go.Proofs.Qxb6608627aDoor
