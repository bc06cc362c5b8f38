import Derived.Lib.SplitLaws
import Derived.Lib.SlicesS
import Derived.Shelf.GgClosure.StringsIndexFunc
namespace Go.Proofs.Qxb6609149aFmt

def spl : List UInt8 → List (List UInt8)
  | [] => [[]]
  | c :: l => if c = 44 then [] :: spl l else match spl l with
    | [] => [[c]]
    | x :: xs => (c :: x) :: xs

theorem spl_ne (l : List UInt8) : spl l ≠ [] := by
  cases l with
  | nil => simp [spl]
  | cons c l =>
    unfold spl
    split
    · simp
    · split <;> simp
theorem spl_comma (l : List UInt8) : spl (44 :: l) = [] :: spl l := by simp [spl]
theorem spl_other (c : UInt8) (l : List UInt8) (h : c ≠ 44) {x : List UInt8} {xs : List (List UInt8)} (hx : spl l = x :: xs) : spl (c :: l) = (c :: x) :: xs := by
  rw [spl, if_neg h, hx]
theorem spl_append (b : List UInt8) : ∀ a : List UInt8, spl (a ++ 44 :: b) = spl a ++ spl b
  | [] => by rw [List.nil_append, spl_comma]; rfl
  | c :: a => by
    have ih := spl_append b a
    by_cases h : c = 44
    · subst h; rw [List.cons_append, spl_comma, spl_comma, ih]; rfl
    · obtain ⟨x, xs, hx⟩ := List.exists_cons_of_ne_nil (spl_ne a)
      rw [List.cons_append, spl_other c a h hx, spl_other c (a ++ 44 :: b) h (by rw [ih, hx]; rfl)]
      rfl
theorem idx_cases : ∀ l : List UInt8, (Lib.indexByte l 44 = -1 ∧ spl l = [l]) ∨ ∃ i : Nat, Lib.indexByte l 44 = i ∧ spl l = l.take i :: spl (l.drop (i + 1)) ∧ i < l.length
  | [] => Or.inl ⟨rfl, rfl⟩
  | b :: l => by
    by_cases h : b = 44
    · subst h
      refine Or.inr ⟨0, ?_, ?_, by simp⟩
      · simp [Lib.indexByte]
      · rw [spl_comma]; rfl
    · have hb : (b == 44) = false := by simp [h]
      rcases idx_cases l with ⟨h1, h2⟩ | ⟨i, h1, h2, h3⟩
      · refine Or.inl ⟨?_, ?_⟩
        · rw [Lib.indexByte, hb, h1]; rfl
        · rw [spl_other b l h h2]
      · refine Or.inr ⟨i + 1, ?_, ?_, by simp; omega⟩
        · rw [Lib.indexByte, hb, h1]
          have : ((i : Int) == -1) = false := by rw [beq_eq_false_iff_ne]; omega
          simp [this]
        · rw [spl_other b l h h2]; rfl
theorem split_spl : ∀ (n : Nat) (l : List UInt8), l.length ≤ n → Lib.splitK [44] 0 (Lib.count l [44]) l = spl l
  | n, l, hn => by
    have hix : Lib.index l [44] = Lib.indexByte l 44 := Lib.index_one l 44
    rcases idx_cases l with ⟨h1, h2⟩ | ⟨i, h1, h2, h3⟩
    · rw [Lib.count_miss (by rw [hix, h1]), h2]; rfl
    · have hi : Lib.index l [44] = i := by rw [hix, h1]
      rw [Lib.count_hit (by simp) hi, h2, Nat.add_comm]
      unfold Lib.splitK
      have hne : ¬ (Lib.index l [44] == -1) = true := fun e => by have := beq_iff_eq.1 e; omega
      rw [if_neg hne, hi]
      cases n with
      | zero => omega
      | succ n =>
        have ih := split_spl n (l.drop (i + 1)) (by rw [List.length_drop]; omega)
        simp only [Int.toNat_natCast, Nat.add_zero, List.length_singleton]
        rw [ih]

/-- The list's pieces. -/
def segs (s : ByteArray) : List ByteArray := (spl s.data.toList).map fun l => ⟨l.toArray⟩
theorem bytes_ext {a b : ByteArray} (h : a.data.toList = b.data.toList) : a = b := ByteArray.ext (Array.toList_inj.1 h)
theorem map_inj : ∀ {Xs Ys : List ByteArray}, Xs.map (·.data.toList) = Ys.map (·.data.toList) → Xs = Ys
  | [], [], _ => rfl
  | [], _ :: _, h => by simp at h
  | _ :: _, [], h => by simp at h
  | X :: Xs, Y :: Ys, h => by
    rw [List.map_cons, List.map_cons, List.cons.injEq] at h
    rw [bytes_ext h.1, map_inj h.2]
theorem segs_data (s : ByteArray) : (segs s).map (·.data.toList) = spl s.data.toList := by
  unfold segs
  rw [List.map_map]
  exact List.map_id'' (fun _ => rfl) _
theorem splitB_segs (s : ByteArray) : Lib.splitB ⟨#[44]⟩ 0 (Lib.countB s ⟨#[44]⟩) s = segs s := by
  apply map_inj
  rw [Lib.splitB_data, segs_data]
  exact split_spl _ s.data.toList (Nat.le_refl _)
theorem segs_len (s : ByteArray) : Lib.countB s ⟨#[44]⟩ + 1 = (segs s).length := by
  rw [← splitB_segs, Lib.splitB_all ⟨#[44]⟩ (by decide) 0 _ s rfl]
theorem segs_join (s a b : ByteArray) (h : s.data.toList = a.data.toList ++ 44 :: b.data.toList) : segs s = segs a ++ segs b := by
  apply map_inj
  rw [List.map_append, segs_data, segs_data, segs_data, h, spl_append]
theorem segs_pos (s : ByteArray) : 0 < (segs s).length := by rw [← segs_len]; omega

/-- strings joined with commas -/
def joinC : List (List UInt8) → List UInt8
  | [] => []
  | [x] => x
  | x :: y :: xs => x ++ 44 :: joinC (y :: xs)
theorem joinC_cons {x : List UInt8} {xs : List (List UInt8)} (h : xs ≠ []) : joinC (x :: xs) = x ++ 44 :: joinC xs := by
  obtain ⟨y, ys, rfl⟩ := List.exists_cons_of_ne_nil h; rfl
theorem joinC_head (c : UInt8) (x : List UInt8) (xs : List (List UInt8)) : joinC ((c :: x) :: xs) = c :: joinC (x :: xs) := by
  cases xs <;> rfl
theorem joinC_spl : ∀ l : List UInt8, joinC (spl l) = l
  | [] => rfl
  | c :: l => by
    have ih := joinC_spl l
    by_cases h : c = 44
    · subst h; rw [spl_comma, joinC_cons (spl_ne l), ih]; rfl
    · obtain ⟨x, xs, hx⟩ := List.exists_cons_of_ne_nil (spl_ne l)
      rw [spl_other c l h hx, joinC_head, ← hx, ih]
theorem joinC_snoc (y : List UInt8) : ∀ xs : List (List UInt8), xs ≠ [] → joinC (xs ++ [y]) = joinC xs ++ 44 :: y
  | [x], _ => rfl
  | x :: z :: xs, _ => by
    have ih := joinC_snoc y (z :: xs) (by simp)
    rw [List.cons_append, joinC_cons (x := x) (xs := z :: xs ++ [y]) (by simp), ih, joinC_cons (x := x) (xs := z :: xs) (by simp)]
    simp

/-- what notNameRune answers -/
def nn (c : Nat) : Bool := !((decide (97 ≤ c) && decide (c ≤ 122)) || (decide (65 ≤ c) && decide (c ≤ 90)) || (decide (48 ≤ c) && decide (c ≤ 57)) || (c == 95))
def good (X : ByteArray) : Prop := X.data.toList ≠ [] ∧ Lib.idxFunc nn true X < 0
/-- ParseAttributes accepts these pieces. -/
def Acc (Xs : List ByteArray) : Prop := Xs.length ≤ 8 ∧ (∀ X ∈ Xs, good X) ∧ Xs.Nodup
theorem acc_append (A B : List ByteArray) : Acc (A ++ B) ↔ Acc A ∧ Acc B ∧ A.length + B.length ≤ 8 ∧ ∀ x ∈ A, ∀ y ∈ B, x ≠ y := by
  unfold Acc
  rw [List.nodup_append, List.length_append]
  constructor
  · rintro ⟨h1, h2, h3, h4, h5⟩
    exact ⟨⟨by omega, fun X hX => h2 X (List.mem_append_left _ hX), h3⟩, ⟨by omega, fun X hX => h2 X (List.mem_append_right _ hX), h4⟩, h1, h5⟩
  · rintro ⟨⟨_, h2, h3⟩, ⟨_, h5, h6⟩, h7, h8⟩
    exact ⟨h7, fun X hX => (List.mem_append.1 hX).elim (h2 X) (h5 X), h3, h6, h8⟩
theorem nodup_of_take : ∀ (Xs : List ByteArray), (∀ j, j < Xs.length → Xs.getD j ByteArray.empty ∉ Xs.take j) → Xs.Nodup := by
  intro Xs h
  rw [List.nodup_iff_pairwise_ne, List.pairwise_iff_getElem]
  intro i j hi hj hij e
  refine h j hj ?_
  rw [List.getD, List.getElem?_eq_getElem hj, Option.getD_some, ← e]
  exact List.mem_take_iff_getElem.2 ⟨i, by omega, rfl⟩
theorem not_nodup_of_take (Xs : List ByteArray) (j : Nat) (hj : j < Xs.length) (h : Xs.getD j ByteArray.empty ∈ Xs.take j) : ¬ Xs.Nodup := by
  intro hn
  rw [List.nodup_iff_pairwise_ne, List.pairwise_iff_getElem] at hn
  obtain ⟨i, hi, e⟩ := List.mem_take_iff_getElem.1 h
  refine hn i j (by omega) hj (by omega) ?_
  rw [List.getD, List.getElem?_eq_getElem hj, Option.getD_some] at e
  exact e
theorem getD_mem (Xs : List ByteArray) (j : Nat) (hj : j < Xs.length) : Xs.getD j ByteArray.empty ∈ Xs := by
  rw [List.getD, List.getElem?_eq_getElem hj, Option.getD_some]; exact List.getElem_mem hj
theorem exists_getD {Xs : List ByteArray} {X : ByteArray} (h : X ∈ Xs) : ∃ j, j < Xs.length ∧ Xs.getD j ByteArray.empty = X := by
  obtain ⟨j, hj, e⟩ := List.getElem_of_mem h
  exact ⟨j, hj, by rw [List.getD, List.getElem?_eq_getElem hj, Option.getD_some, e]⟩
end Go.Proofs.Qxb6609149aFmt
