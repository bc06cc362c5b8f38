import Derived.Test.Qxb6606102aDoorRtHelpB
namespace Go.Proofs.Qxb6606102aDoor
open Go.RowKit

def sumS (Xs : List ByteArray) : Nat := (Xs.map (·.size)).sum
theorem sumS_snoc (Xs : List ByteArray) (k : Nat) (h : k < Xs.length) : sumS (Xs.take (k + 1)) = sumS (Xs.take k) + (Xs.getD k ByteArray.empty).size := by
  unfold sumS
  rw [List.take_succ_eq_append_getElem h, List.map_append, List.sum_append, List.getD, List.getElem?_eq_getElem h]
  simp
theorem sumS_all (Xs : List ByteArray) : sumS (Xs.take Xs.length) = sumS Xs := by rw [List.take_length]

def pairs (Ns Vs : List ByteArray) : List (List UInt8 × List UInt8) := List.zip (Ns.map (·.data.toList)) (Vs.map (·.data.toList))
theorem pairs_len (Ns Vs : List ByteArray) : (pairs Ns Vs).length = min Ns.length Vs.length := by simp [pairs]
theorem pairs_get (Ns Vs : List ByteArray) (k : Nat) (h : k < min Ns.length Vs.length) : (pairs Ns Vs)[k]? = some ((Ns.getD k ByteArray.empty).data.toList, (Vs.getD k ByteArray.empty).data.toList) := by
  unfold pairs
  rw [List.getElem?_zip_eq_some]
  have h1 : k < Ns.length := by omega
  have h2 : k < Vs.length := by omega
  simp [List.getElem?_eq_getElem h1, List.getElem?_eq_getElem h2, List.getD]
theorem pairs_take (Ns Vs : List ByteArray) (k : Nat) (h : k < min Ns.length Vs.length) : (pairs Ns Vs).take (k + 1) = (pairs Ns Vs).take k ++ [((Ns.getD k ByteArray.empty).data.toList, (Vs.getD k ByteArray.empty).data.toList)] := by
  have hk : k < (pairs Ns Vs).length := by rw [pairs_len]; exact h
  have := pairs_get Ns Vs k h
  rw [List.getElem?_eq_getElem hk] at this
  rw [List.take_succ_eq_append_getElem hk, Option.some.inj this]
theorem pairs_drop (Ns Vs : List ByteArray) (k : Nat) (h : k < min Ns.length Vs.length) : (pairs Ns Vs).drop k = ((Ns.getD k ByteArray.empty).data.toList, (Vs.getD k ByteArray.empty).data.toList) :: (pairs Ns Vs).drop (k + 1) := by
  have hk : k < (pairs Ns Vs).length := by rw [pairs_len]; exact h
  have := pairs_get Ns Vs k h
  rw [List.getElem?_eq_getElem hk] at this
  rw [List.drop_eq_getElem_cons hk, Option.some.inj this]

def wt (ps : List (List UInt8 × List UInt8)) : Nat := (ps.map fun p => p.1.length + 2 * p.2.length).sum
theorem item_len (gap : List UInt8) (p : List UInt8 × List UInt8) : (Pl.item gap p).length ≤ p.1.length + 2 * p.2.length + (2 * gap.length + 3) := by
  have := Pl.quote_len p.2
  simp [Pl.item]; omega
theorem tail_len (gap sep : List UInt8) : ∀ ps : List (List UInt8 × List UInt8), (Pl.tailT gap sep [] ps).length ≤ wt ps + ps.length * (2 * gap.length + sep.length + 3)
  | [] => by simp [Pl.tailT]
  | p :: ps => by
    have ih := tail_len gap sep ps
    have h := item_len gap p
    have e : (p :: ps).length * (2 * gap.length + sep.length + 3) = ps.length * (2 * gap.length + sep.length + 3) + (2 * gap.length + sep.length + 3) := by
      rw [List.length_cons, Nat.succ_mul]
    have e2 : wt (p :: ps) = p.1.length + 2 * p.2.length + wt ps := by simp [wt]
    rw [e, e2]
    simp only [Pl.tailT, List.length_append]
    omega
theorem built_len (gap sep : List UInt8) (ps : List (List UInt8 × List UInt8)) : (Pl.built gap sep ps).length ≤ wt ps + ps.length * (2 * gap.length + sep.length + 3) := by
  cases ps with
  | nil => simp [Pl.built]
  | cons p ps =>
    have := tail_len gap sep (p :: ps)
    simp only [Pl.tailT, List.length_append] at this
    simp only [Pl.built, List.length_append]
    omega
theorem wt_take : ∀ (ps : List (List UInt8 × List UInt8)) (k : Nat), wt (ps.take k) ≤ wt ps
  | [], k => by simp
  | p :: ps, 0 => by simp [wt]
  | p :: ps, k + 1 => by
    have := wt_take ps k
    simp only [List.take_succ_cons]
    unfold wt at this ⊢
    simp only [List.map_cons, List.sum_cons]
    omega
theorem wt_pairs : ∀ (Ns Vs : List ByteArray), wt (pairs Ns Vs) ≤ sumS Ns + 2 * sumS Vs
  | [], Vs => by simp [pairs, wt]
  | N :: Ns, [] => by simp [pairs, wt]
  | N :: Ns, V :: Vs => by
    have ih := wt_pairs Ns Vs
    have e : pairs (N :: Ns) (V :: Vs) = (N.data.toList, V.data.toList) :: pairs Ns Vs := rfl
    have e2 : wt ((N.data.toList, V.data.toList) :: pairs Ns Vs) = N.size + 2 * V.size + wt (pairs Ns Vs) := by
      simp only [wt, List.map_cons, List.sum_cons, ← Lib.size_eq]
    have e3 : sumS (N :: Ns) = N.size + sumS Ns := by simp [sumS]
    have e4 : sumS (V :: Vs) = V.size + sumS Vs := by simp [sumS]
    rw [e, e2, e3, e4]
    omega
/-- However many have been written, the buffer is small. -/
theorem built_small (gap sep : List UInt8) (Ns Vs : List ByteArray) (P k : Nat) (hP : min Ns.length Vs.length * (2 * gap.length + sep.length + 1) = P) (hP2 : P ≤ 1048576) (hn : sumS Ns ≤ 1048576) (hv : sumS Vs ≤ 1048576) (hm : min Ns.length Vs.length ≤ 4096) :
    (Pl.built gap sep ((pairs Ns Vs).take k)).length ≤ 4300000 := by
  have h1 := built_len gap sep ((pairs Ns Vs).take k)
  have h2 := wt_take (pairs Ns Vs) k
  have h3 := wt_pairs Ns Vs
  have h4 : ((pairs Ns Vs).take k).length ≤ min Ns.length Vs.length := by rw [List.length_take, pairs_len]; omega
  have h5 : ((pairs Ns Vs).take k).length * (2 * gap.length + sep.length + 3) ≤ min Ns.length Vs.length * (2 * gap.length + sep.length + 3) := Nat.mul_le_mul_right _ h4
  have h6 : min Ns.length Vs.length * (2 * gap.length + sep.length + 3) = P + min Ns.length Vs.length * 2 := by
    rw [← hP, ← Nat.mul_add]
  omega

theorem clone_any (a0 : Option Addr) (b o c : Nat) (Xs : List ByteArray) (w : World) (hX : Strs w a0 b o Xs) (hnil : a0 = none → Xs = [] ∧ c = 0) (hn : Xs.length ≤ 4096) :
    Calls Tryd.prog 11 #[.slice a0 Xs.length c] w fun e w' => ∃ a' b' o' c', e = .returned (.slice a' Xs.length c') ∧ Strs w' a' b' o' Xs ∧ Below w.heap.size w w' := by
  cases a0 with
  | none =>
    obtain ⟨rfl, rfl⟩ := hnil rfl
    exact (clone_nil w).mono fun e w' ⟨he, hw⟩ => ⟨none, 0, 0, 0, he, ⟨fun h => absurd h (by simp), fun j hj => absurd hj (by simp)⟩, hw ▸ Below.refl _ _⟩
  | some ad => exact (clone_walk ad b o c Xs w hX hn).mono fun e w' ⟨he, hown, hb⟩ => ⟨_, _, _, _, he, Strs.of_row hown, hb⟩

theorem getD_le_sumS : ∀ (Xs : List ByteArray) (k : Nat), (Xs.getD k ByteArray.empty).size ≤ sumS Xs
  | [], k => by simp [List.getD]
  | X :: Xs, 0 => by simp [List.getD, sumS]
  | X :: Xs, k + 1 => by
    have ih := getD_le_sumS Xs k
    have e : sumS (X :: Xs) = X.size + sumS Xs := by simp [sumS]
    have e2 : (X :: Xs).getD (k + 1) ByteArray.empty = Xs.getD k ByteArray.empty := by simp [List.getD]
    rw [e, e2]; omega
theorem mem_keys_drop (Ns Vs : List ByteArray) (m : Nat) (x : List UInt8) : x ∈ Pl.keys ((pairs Ns Vs).drop m) ↔ ∃ j, m ≤ j ∧ j < min Ns.length Vs.length ∧ (Ns.getD j ByteArray.empty).data.toList = x := by
  unfold Pl.keys
  constructor
  · intro h
    obtain ⟨p, hp, rfl⟩ := List.mem_map.1 h
    obtain ⟨i, hi⟩ := List.getElem?_of_mem hp
    rw [List.getElem?_drop] at hi
    have hlt : m + i < (pairs Ns Vs).length := (List.getElem?_eq_some_iff.1 hi).1
    rw [pairs_len] at hlt
    rw [pairs_get Ns Vs (m + i) hlt] at hi
    exact ⟨m + i, by omega, hlt, by rw [← Option.some.inj hi]⟩
  · rintro ⟨j, h1, h2, rfl⟩
    refine List.mem_map.2 ⟨((Ns.getD j ByteArray.empty).data.toList, (Vs.getD j ByteArray.empty).data.toList), List.mem_of_getElem? (i := j - m) ?_, rfl⟩
    rw [List.getElem?_drop, show m + (j - m) = j by omega]; exact pairs_get Ns Vs j h2
theorem pairs_split (Ns Vs : List ByteArray) (k : Nat) (h : k < min Ns.length Vs.length) : pairs Ns Vs = (pairs Ns Vs).take k ++ ((Ns.getD k ByteArray.empty).data.toList, (Vs.getD k ByteArray.empty).data.toList) :: (pairs Ns Vs).drop (k + 1) := by
  rw [← pairs_drop Ns Vs k h, List.take_append_drop]
theorem pairs_plain (Ns Vs : List ByteArray) (h : ∀ j, j < min Ns.length Vs.length → allPlain (Ns.getD j ByteArray.empty) = true) : ∀ p ∈ pairs Ns Vs, ∀ c ∈ p.1, Pl.plainB c = true := by
  intro p hp c hc
  obtain ⟨i, hi⟩ := List.getElem?_of_mem hp
  have hlt : i < (pairs Ns Vs).length := (List.getElem?_eq_some_iff.1 hi).1
  rw [pairs_len] at hlt
  rw [pairs_get Ns Vs i hlt] at hi
  rw [← Option.some.inj hi] at hc
  exact List.all_eq_true.1 (h i hlt) c hc
theorem allIn_mem {s : ByteArray} {cs : ByteArray} (h : allIn s cs = true) : ∀ c ∈ s.data.toList, cs.data.toList.contains c = true := fun c hc => List.all_eq_true.1 h c hc
theorem allIn_b (s cs : ByteArray) (w : World) (hs : s.size ≤ 1048576) (hc : cs.size ≤ 1048576) :
    Calls Tryd.prog 18 #[.string s, .string cs] w fun e w' => e = .returned (.bool (allIn s cs)) ∧ Below w.heap.size w w' :=
  (allIn_walk s cs w hs hc).mono fun _ _ ⟨he, _, hw⟩ => ⟨he, hw ▸ ⟨rfl, rfl, rfl, Nat.le_refl _, fun _ _ => rfl⟩⟩
end Go.Proofs.Qxb6606102aDoor
