import Derived.Test.Qxb6614551aDoorPlain
import Derived.Laws.RangeString
namespace Go.Proofs.Qxb6614551aDoor
namespace Pl

theorem scan_blank (c : UInt8) (l : List UInt8) (h : blank c = true) : scan (c :: l) = ((scan l).1, (scan l).2.1, 1 + (scan l).2.2) := by
  unfold scan
  have e : skipN false (c :: l) = skipN false l + 1 := by rw [skipN, if_pos h]; omega
  rw [e, List.drop_succ_cons]
  simp only
  congr 2
  omega
theorem let_notSkip {c : UInt8} (h : isLet c = true) : blank c = false ∧ c ≠ 35 ∧ c ≠ 10 := by
  have h' : 97 ≤ c.toNat ∧ c.toNat ≤ 122 ∨ 65 ≤ c.toNat ∧ c.toNat ≤ 90 ∨ c.toNat = 95 := by simpa [isLet] using h
  refine ⟨?_, fun e => ?_, fun e => ?_⟩
  · unfold blank
    simp only [Bool.or_eq_false_iff, beq_eq_false_iff_ne]
    refine ⟨⟨fun e => ?_, fun e => ?_⟩, fun e => ?_⟩ <;> · rw [e] at h'; simp at h'
  · rw [e] at h'; simp at h'
  · rw [e] at h'; simp at h'
theorem takeWhile_stop {p : UInt8 → Bool} : ∀ (t r : List UInt8), (∀ x ∈ t, p x = true) → (∀ x, r.head? = some x → p x = false) → (t ++ r).takeWhile p = t
  | [], [], _, _ => rfl
  | [], x :: r, _, h => by rw [List.nil_append, List.takeWhile_cons, h x rfl]; rfl
  | x :: t, r, h1, h2 => by
    rw [List.cons_append, List.takeWhile_cons, h1 x (by simp), takeWhile_stop t r (fun y hy => h1 y (by simp [hy])) h2]; rfl
theorem scan_ident (c : UInt8) (t r : List UInt8) (hc : isLet c = true) (ht : ∀ x ∈ t, identC x = true) (hr : ∀ x, r.head? = some x → identC x = false) : scan (c :: t ++ r) = (2, c :: t, t.length + 1) := by
  obtain ⟨h1, h2, h3⟩ := let_notSkip hc
  have e : skipN false (c :: t ++ r) = 0 := by rw [List.cons_append, skipN, if_neg (by rw [h1]; exact Bool.false_ne_true), if_neg h2]
  have e2 : tokN (c :: t ++ r) = (2, 1 + t.length) := by rw [List.cons_append, tokN, if_neg h3, if_pos hc, takeWhile_stop t r ht hr]
  unfold scan
  rw [e]
  simp only [List.drop_zero]
  rw [e2]
  simp only
  rw [show (c :: t ++ r).take (1 + t.length) = c :: t by rw [show 1 + t.length = (c :: t).length by simp; omega, List.take_left], show 0 + (1 + t.length) = t.length + 1 by omega]
theorem width_ascii (c : UInt8) (l : List UInt8) (h : c.toNat < 128) : width (c :: l) = 1 := by
  unfold width Lib.decodeGo
  have hs : (⟨(c :: l).toArray⟩ : ByteArray).size = l.length + 1 := by rw [Lib.size_eq]; rfl
  rw [if_neg (by omega)]
  have := decode_ascii (⟨(c :: l).toArray⟩ : ByteArray) 0 (by omega) h
  rw [this]
theorem scan_pun (c : UInt8) (l : List UInt8) (h : c = 61 ∨ c = 40 ∨ c = 41) : scan (c :: l) = (4, [c], 1) := by
  have hw : width (c :: l) = 1 := width_ascii c l (by rcases h with rfl | rfl | rfl <;> decide)
  have e : skipN false (c :: l) = 0 := by rcases h with rfl | rfl | rfl <;> rfl
  have e2 : tokN (c :: l) = (4, 1) := by
    rw [← hw]
    rcases h with rfl | rfl | rfl <;> rfl
  unfold scan
  rw [e]
  simp only [List.drop_zero]
  rw [e2]
  rfl
theorem scan_nil : scan [] = (0, [], 0) := rfl
/-- what lineHasTokenB1 answers -/
def lineHas : List UInt8 → Bool
  | [] => false
  | c :: l => if blank c then lineHas l else !(c == 10) && !(c == 35)
theorem skip_comment : ∀ l : List UInt8, l.drop (skipN true l) = [] ∨ ∃ r, l.drop (skipN true l) = 10 :: r
  | [] => Or.inl rfl
  | c :: l => by
    by_cases h : c = 10
    · subst h; exact Or.inr ⟨l, rfl⟩
    · have e : skipN true (c :: l) = skipN true l + 1 := by rw [skipN, if_neg h]; omega
      rw [e, List.drop_succ_cons]
      exact skip_comment l
theorem tokN_kind {c : UInt8} (l : List UInt8) (h : c ≠ 10) : (tokN (c :: l)).1 ≠ 0 ∧ (tokN (c :: l)).1 ≠ 1 := by
  rw [tokN, if_neg h]
  repeat' split
  all_goals simp
theorem lineHas_scan : ∀ l : List UInt8, lineHas l = (!((scan l).1 == 1) && !((scan l).1 == 0))
  | [] => rfl
  | c :: l => by
    by_cases hb : blank c = true
    · rw [lineHas, if_pos hb, scan_blank c l hb]; exact lineHas_scan l
    · rw [lineHas, if_neg hb]
      by_cases h35 : c = 35
      · subst h35
        have e : skipN false (35 :: l) = skipN true l + 1 := by rw [skipN, if_neg hb, if_pos rfl]; omega
        have e1 : (scan (35 :: l)).1 = (tokN (l.drop (skipN true l))).1 := by unfold scan; rw [e, List.drop_succ_cons]
        rw [e1]
        rcases skip_comment l with h | ⟨r, h⟩
        · rw [h]; rfl
        · rw [h]; rfl
      · have e : skipN false (c :: l) = 0 := by rw [skipN, if_neg hb, if_neg h35]
        have e1 : (scan (c :: l)).1 = (tokN (c :: l)).1 := by unfold scan; rw [e]; rfl
        rw [e1]
        by_cases h10 : c = 10
        · subst h10; rfl
        · have hk := tokN_kind l h10
          have h1 : ((tokN (c :: l)).1 == 1) = false := beq_eq_false_iff_ne.2 hk.2
          have h0 : ((tokN (c :: l)).1 == 0) = false := beq_eq_false_iff_ne.2 hk.1
          have h2 : (c == 10) = false := beq_eq_false_iff_ne.2 h10
          have h3 : (c == 35) = false := beq_eq_false_iff_ne.2 h35
          rw [h1, h0, h2, h3]
end Pl
end Go.Proofs.Qxb6614551aDoor
