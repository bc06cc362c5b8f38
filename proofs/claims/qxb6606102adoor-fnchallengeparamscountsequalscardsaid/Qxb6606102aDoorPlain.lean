/- The plain layer under challengeParams and paramValue: lists of bytes, no Go. -/
import Derived.Lib.SlTrimSet
import Derived.Lib.IndexMore
import Derived.Lib.MapLaws
import Derived.Lib.SpaceUEq
import Derived.Maps.Views
namespace Go.Proofs.Qxb6606102aDoor.Pl
open Go

/-- What stands behind an opening quote: the value and the text behind the closing quote. -/
def unq : List UInt8 → List UInt8 × List UInt8
  | [] => ([], [])
  | [c] => if c = 92 then ([], []) else if c = 34 then ([], []) else ([c], [])
  | c :: d :: t => if c = 92 then (d :: (unq t).1, (unq t).2) else if c = 34 then ([], d :: t) else (c :: (unq (d :: t)).1, (unq (d :: t)).2)

theorem unq_nil : unq [] = ([], []) := rfl
theorem unq_plain (c : UInt8) (t : List UInt8) (h1 : c ≠ 92) (h2 : c ≠ 34) : unq (c :: t) = (c :: (unq t).1, (unq t).2) := by
  cases t with
  | nil => simp [unq, h1, h2]
  | cons d t => simp [unq, h1, h2]
theorem unq_esc (d : UInt8) (t : List UInt8) : unq (92 :: d :: t) = (d :: (unq t).1, (unq t).2) := by simp [unq]
theorem unq_escEnd : unq [92] = ([], []) := by simp [unq]
theorem unq_quote (t : List UInt8) : unq (34 :: t) = ([], t) := by
  cases t with
  | nil => simp [unq]
  | cons d t => simp [unq]

theorem unq_sub : ∀ (n : Nat) (t : List UInt8), t.length ≤ n → (unq t).2.Sublist t ∧ (unq t).1.length ≤ t.length
  | 0, t, hn => by
    have : t = [] := List.eq_nil_of_length_eq_zero (by omega)
    subst this
    exact ⟨List.Sublist.refl _, Nat.le_refl _⟩
  | n + 1, t, hn => by
    match t, hn with
    | [], _ => exact ⟨List.Sublist.refl _, Nat.le_refl _⟩
    | c :: t, hn =>
      by_cases h1 : c = 92
      · subst h1
        cases t with
        | nil => rw [unq_escEnd]; exact ⟨List.nil_sublist _, by simp⟩
        | cons d t =>
          rw [unq_esc]
          have ih := unq_sub n t (by simp at hn; omega)
          exact ⟨(ih.1.cons d).cons 92, by simp; omega⟩
      · by_cases h2 : c = 34
        · subst h2
          rw [unq_quote]
          exact ⟨List.sublist_cons_self _ _, by simp⟩
        · rw [unq_plain c t h1 h2]
          have ih := unq_sub n t (by simp at hn; omega)
          exact ⟨ih.1.cons c, by simp; omega⟩

/-- What paramValue answers: a quoted text exactly; of any other text SOME cut of it. -/
def PV (s v r : List UInt8) : Prop :=
  (∃ t, s = 34 :: t ∧ v = (unq t).1 ∧ r = (unq t).2) ∨ ((∀ t, s ≠ 34 :: t) ∧ ∃ k, k ≤ s.length ∧ v = s.take k ∧ r = s.drop k)

theorem PV.sub {s v r : List UInt8} (h : PV s v r) : r.Sublist s ∧ v.length ≤ s.length := by
  rcases h with ⟨t, rfl, rfl, rfl⟩ | ⟨_, k, hk, rfl, rfl⟩
  · have := unq_sub t.length t (Nat.le_refl _)
    exact ⟨this.1.cons 34, by simp; omega⟩
  · exact ⟨List.drop_sublist _ _, by simp; omega⟩

/-- strings.Cut of strings.TrimLeft: blank, tab and comma off the left; cut at the equals sign. -/
def cutOf (t : List UInt8) : List UInt8 × List UInt8 × Bool := Lib.cut (Lib.trimLeftS t [32, 9, 44]) [61]

/-- One round of challengeParams. -/
def Step (t k v t' : List UInt8) : Prop :=
  (cutOf t).2.2 = true ∧ k = Lib.toLowerD (Lib.trimSpaceD (cutOf t).1) ∧ PV (Lib.trimLeftS (cutOf t).2.1 [32, 9]) v t'

/-- All rounds. -/
def Run : List UInt8 → List (List UInt8 × List UInt8) → Prop
  | t, [] => (cutOf t).2.2 = false
  | t, e :: es => ∃ t', Step t e.1 e.2 t' ∧ Run t' es

/-! ### lengths and counts -/
theorem trimLeftS_sub (l cs : List UInt8) : (Lib.trimLeftS l cs).Sublist l := List.dropWhile_sublist _
theorem count_dropWhile (p : UInt8 → Bool) (c : UInt8) (hp : p c = false) : ∀ l : List UInt8, (l.dropWhile p).count c = l.count c
  | [] => rfl
  | b :: l => by
    rw [List.dropWhile_cons]
    cases hb : p b
    · simp
    · simp only [if_true]
      rw [count_dropWhile p c hp l, List.count_cons]
      have : (b == c) = false := by
        rw [beq_eq_false_iff_ne]
        intro e
        rw [e, hp] at hb
        cases hb
      simp [this]

theorem indexByte_split (c : UInt8) : ∀ l : List UInt8, (Lib.indexByte l c = -1 ∧ l.count c = 0) ∨
    (0 ≤ Lib.indexByte l c ∧ (l.drop ((Lib.indexByte l c).toNat + 1)).count c + 1 = l.count c ∧ (Lib.indexByte l c).toNat + 1 ≤ l.length ∧ (l.take (Lib.indexByte l c).toNat).count c = 0 ∧ l = l.take (Lib.indexByte l c).toNat ++ c :: l.drop ((Lib.indexByte l c).toNat + 1))
  | [] => Or.inl ⟨rfl, rfl⟩
  | b :: l => by
    unfold Lib.indexByte
    by_cases hb : b = c
    · subst hb
      right
      simp
    · have hb' : (b == c) = false := by simp [hb]
      rw [hb']
      simp only [Bool.false_eq_true, if_false]
      rcases indexByte_split c l with ⟨h1, h2⟩ | ⟨h1, h2, h3, h4, h5⟩
      · left
        rw [h1]
        simp [List.count_cons, hb', h2]
      · right
        have hne : (Lib.indexByte l c == -1) = false := by rw [beq_eq_false_iff_ne]; omega
        rw [hne]
        simp only [Bool.false_eq_true, if_false]
        have e : (Lib.indexByte l c + 1).toNat = (Lib.indexByte l c).toNat + 1 := by omega
        rw [e]
        refine ⟨by omega, ?_, by simp; omega, ?_, ?_⟩
        · simp [List.count_cons, hb', h2]
        · simp [List.count_cons, hb', h4]
        · simp only [List.take_succ_cons, List.drop_succ_cons, List.cons_append]
          rw [← h5]

theorem cut_split (s : List UInt8) : ((Lib.cut s [61]).2.2 = false ∧ s.count 61 = 0) ∨
    ((Lib.cut s [61]).2.2 = true ∧ (Lib.cut s [61]).2.1.count 61 + 1 = s.count 61 ∧ (Lib.cut s [61]).2.1.length < s.length ∧ (Lib.cut s [61]).1.length < s.length ∧ s = (Lib.cut s [61]).1 ++ 61 :: (Lib.cut s [61]).2.1 ∧ (Lib.cut s [61]).1.count 61 = 0) := by
  unfold Lib.cut
  rw [Lib.index_one]
  rcases indexByte_split 61 s with ⟨h1, h2⟩ | ⟨h1, h2, h3, h4, h5⟩
  · left
    rw [if_neg (by omega)]
    exact ⟨rfl, h2⟩
  · right
    rw [if_pos h1]
    refine ⟨rfl, h2, ?_, ?_, h5, h4⟩
    · simp; omega
    · simp; omega

theorem cutOf_split (t : List UInt8) : ((cutOf t).2.2 = false ∧ t.count 61 = 0) ∨
    ((cutOf t).2.2 = true ∧ (cutOf t).2.1.count 61 + 1 = t.count 61 ∧ (cutOf t).2.1.length < t.length ∧ (cutOf t).1.length < t.length) := by
  have hc : (Lib.trimLeftS t [32, 9, 44]).count 61 = t.count 61 := count_dropWhile _ 61 (by decide) t
  have hl := (trimLeftS_sub t [32, 9, 44]).length_le
  unfold cutOf
  rcases cut_split (Lib.trimLeftS t [32, 9, 44]) with ⟨h1, h2⟩ | ⟨h1, h2, h3, h4, _, _⟩
  · exact Or.inl ⟨h1, by omega⟩
  · exact Or.inr ⟨h1, by omega, by omega, by omega⟩

theorem trimLeftD_sub : ∀ (f : Nat) (l : List UInt8), (Lib.trimLeftD f l).Sublist l
  | 0, _ => List.Sublist.refl _
  | f + 1, l => by
    unfold Lib.trimLeftD
    split
    · exact List.nil_sublist _
    · split
      · exact (trimLeftD_sub f _).trans (List.drop_sublist _ _)
      · exact List.Sublist.refl _
theorem trimRightD_sub : ∀ (f : Nat) (l : List UInt8), (Lib.trimRightD f l).Sublist l
  | 0, _ => List.Sublist.refl _
  | f + 1, l => by
    unfold Lib.trimRightD
    split
    · exact List.nil_sublist _
    · split
      · exact (trimRightD_sub f _).trans (List.take_sublist _ _)
      · exact List.Sublist.refl _
theorem trimSpace_sub (l : List UInt8) : (Lib.trimSpaceD l).Sublist l := (trimRightD_sub _ _).trans (trimLeftD_sub _ _)

theorem encode_le4 (z : Int) : (Lib.encodeRune z).length ≤ 4 := by
  unfold Lib.encodeRune Lib.encodeRuneZ
  rw [List.length_map]
  repeat' split
  all_goals simp
theorem mapD_len4 (f : Int → Int) : ∀ (n : Nat) (l : List UInt8), l.length ≤ n → (Lib.mapD f l).length ≤ 4 * l.length
  | 0, l, hn => by
    have : l = [] := List.eq_nil_of_length_eq_zero (by omega)
    subst this
    simp [Lib.mapD_nil]
  | n + 1, l, hn => by
    by_cases hne : l = []
    · subst hne
      simp [Lib.mapD_nil]
    · have hw := Lib.decodeL_width l
      have hle := Lib.decodeL_le l hne
      have ih := mapD_len4 f n (l.drop (Lib.decodeL l).2) (by rw [List.length_drop]; omega)
      rw [List.length_drop] at ih
      rw [Lib.mapD_step f l hne, List.length_append]
      have hh : (if 0 ≤ f (Lib.decodeL l).1 then Lib.encodeRune (f (Lib.decodeL l).1) else []).length ≤ 4 := by
        split
        · exact encode_le4 _
        · simp
      omega
theorem lower_len (l : List UInt8) : (Lib.toLowerD l).length ≤ 4 * l.length := mapD_len4 _ _ l (Nat.le_refl _)

theorem Step.lens {t k v t' : List UInt8} (h : Step t k v t') : t'.length < t.length ∧ v.length ≤ t.length ∧ k.length ≤ 4 * t.length := by
  obtain ⟨h1, rfl, h3⟩ := h
  rcases cutOf_split t with ⟨h4, _⟩ | ⟨_, _, h5, h6⟩
  · rw [h1] at h4; cases h4
  · have hs := h3.sub
    have h7 := (trimLeftS_sub (cutOf t).2.1 [32, 9]).length_le
    have h8 := hs.1.length_le
    have h9 := lower_len (Lib.trimSpaceD (cutOf t).1)
    have h10 := (trimSpace_sub (cutOf t).1).length_le
    exact ⟨by omega, by omega, by omega⟩

theorem Step.count {t k v t' : List UInt8} (h : Step t k v t') : t'.count 61 + 1 ≤ t.count 61 := by
  obtain ⟨h1, rfl, h3⟩ := h
  rcases cutOf_split t with ⟨h4, _⟩ | ⟨_, h5, _, _⟩
  · rw [h1] at h4; cases h4
  · have h6 := h3.sub.1.count_le 61
    have h7 : (Lib.trimLeftS (cutOf t).2.1 [32, 9]).count 61 = (cutOf t).2.1.count 61 := count_dropWhile _ 61 (by decide) _
    omega

theorem Run.count : ∀ (es : List (List UInt8 × List UInt8)) (t : List UInt8), Run t es → es.length ≤ t.count 61 ∧ (es = [] → t.count 61 = 0)
  | [], t, h => by
    refine ⟨by simp, fun _ => ?_⟩
    have h' : (cutOf t).2.2 = false := h
    rcases cutOf_split t with ⟨_, h2⟩ | ⟨h1, _⟩
    · exact h2
    · rw [h'] at h1; cases h1
  | e :: es, t, h => by
    obtain ⟨t', hs, hr⟩ := h
    have h1 := hs.count
    have h2 := Run.count es t' hr
    exact ⟨by simp; omega, fun h => by cases h⟩

/-! ### the map that is filled -/
section
variable {H : Type}
def fillM (m : DataW H) (es : List (List UInt8 × List UInt8)) : DataW H := es.foldl (fun m e => m.put (.string e.1) (.lit (.string e.2))) m
theorem fillM_snoc (m : DataW H) (es : List (List UInt8 × List UInt8)) (k v : List UInt8) : fillM m (es ++ [(k, v)]) = (fillM m es).put (.string k) (.lit (.string v)) := by
  simp [fillM]
theorem tidy_fillM : ∀ (es : List (List UInt8 × List UInt8)) (m : DataW H), Maps.Tidy m → Maps.Tidy (fillM m es)
  | [], _, h => h
  | e :: es, m, h => tidy_fillM es (m.put (.string e.1) (.lit (.string e.2))) (h.put (k := .string e.1) trivial _)
theorem size_fillM_le : ∀ (es : List (List UInt8 × List UInt8)) (m : DataW H), Maps.Tidy m → Maps.size (fillM m es) ≤ Maps.size m + es.length ∧ Maps.size m ≤ Maps.size (fillM m es)
  | [], _, _ => ⟨Nat.le_refl _, Nat.le_refl _⟩
  | e :: es, m, h => by
    have ih := size_fillM_le es (m.put (.string e.1) (.lit (.string e.2))) (h.put (k := .string e.1) trivial _)
    have hp := Maps.size_put (k := .string e.1) h (.lit (.string e.2))
    have e0 : fillM m (e :: es) = fillM (m.put (.string e.1) (.lit (.string e.2))) es := rfl
    rw [e0]
    split at hp
    · exact ⟨by simp; omega, by omega⟩
    · exact ⟨by simp; omega, by omega⟩
theorem size_pos_of_has {D : DataW H} {k : Lit} (h : Maps.has D k = true) : 1 ≤ Maps.size D := by
  cases D <;> first | (cases h; done) | skip
  rename_i es
  cases es with
  | nil => cases h
  | cons p r => simp [Maps.size]
theorem size_fillM_pos (es : List (List UInt8 × List UInt8)) (h : es ≠ []) : 1 ≤ Maps.size (fillM (.map [] : DataW H) es) := by
  cases es with
  | nil => exact absurd rfl h
  | cons e es =>
    have e0 : fillM (.map [] : DataW H) (e :: es) = fillM ((DataW.map []).put (.string e.1) (.lit (.string e.2))) es := rfl
    rw [e0]
    have h1 := (size_fillM_le (H := H) es ((DataW.map []).put (.string e.1) (.lit (.string e.2))) (Maps.tidy_empty.put (k := .string e.1) trivial _)).2
    have h2 := size_pos_of_has (Maps.has_put_same (k := .string e.1) (Maps.isMap_empty (H := H)) trivial (.lit (.string e.2)))
    omega
end
end Go.Proofs.Qxb6606102aDoor.Pl
