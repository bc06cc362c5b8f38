/- The plain layer, second part: what is written is read back. -/
import Derived.Test.Qxb6606102aDoorPlain
import Derived.Shelf.Strings.CaseAny
namespace Go.Proofs.Qxb6606102aDoor.Pl
open Go

def esc (c : UInt8) : List UInt8 := if c = 92 ∨ c = 34 then [92, c] else [c]
def escs (s : List UInt8) : List UInt8 := s.flatMap esc
def quote (s : List UInt8) : List UInt8 := 34 :: (escs s ++ [34])

theorem escs_nil : escs [] = [] := rfl
theorem escs_snoc (s : List UInt8) (c : UInt8) : escs (s ++ [c]) = escs s ++ esc c := by simp [escs]
theorem esc_len (c : UInt8) : (esc c).length ≤ 2 := by unfold esc; split <;> simp
theorem escs_len : ∀ s : List UInt8, (escs s).length ≤ 2 * s.length
  | [] => by simp [escs]
  | c :: s => by
    have := escs_len s
    have h := esc_len c
    simp only [escs, List.flatMap_cons, List.length_append, List.length_cons]
    unfold escs at this
    omega
theorem quote_len (s : List UInt8) : (quote s).length ≤ 2 * s.length + 2 := by
  have := escs_len s
  simp [quote]; omega

theorem unq_escs : ∀ (s r : List UInt8), unq (escs s ++ 34 :: r) = (s, r)
  | [], r => by simp [escs, unq_quote]
  | c :: s, r => by
    have ih := unq_escs s r
    have e : escs (c :: s) ++ 34 :: r = esc c ++ (escs s ++ 34 :: r) := by simp [escs]
    rw [e]
    unfold esc
    by_cases h : c = 92 ∨ c = 34
    · rw [if_pos h]
      show unq (92 :: c :: (escs s ++ 34 :: r)) = _
      rw [unq_esc, ih]
    · rw [if_neg h]
      show unq (c :: (escs s ++ 34 :: r)) = _
      rw [unq_plain c _ (fun e => h (Or.inl e)) (fun e => h (Or.inr e)), ih]

/-- name gap = gap "value" -/
def item (gap : List UInt8) (p : List UInt8 × List UInt8) : List UInt8 := p.1 ++ gap ++ 61 :: (gap ++ quote p.2)
/-- What stands behind an item. -/
def tailT (gap sep E : List UInt8) : List (List UInt8 × List UInt8) → List UInt8
  | [] => E
  | p :: ps => sep ++ (item gap p ++ tailT gap sep E ps)
def textT (gap sep E : List UInt8) : List (List UInt8 × List UInt8) → List UInt8
  | [] => E
  | p :: ps => item gap p ++ tailT gap sep E ps

/-- bytes 0x21..0x7e, no '=', no ',', no upper case letter -/
def plainB (c : UInt8) : Bool := decide (33 ≤ c.toNat ∧ c.toNat ≤ 126) && !(c.toNat == 61) && !(c.toNat == 44) && !decide (65 ≤ c.toNat ∧ c.toNat ≤ 90)
def blankB (c : UInt8) : Bool := [32, 9].contains c
def sepB (c : UInt8) : Bool := [32, 9, 44].contains c

theorem plainB_iff (c : UInt8) : plainB c = true ↔ 33 ≤ c.toNat ∧ c.toNat ≤ 126 ∧ c.toNat ≠ 61 ∧ c.toNat ≠ 44 ∧ ¬ (65 ≤ c.toNat ∧ c.toNat ≤ 90) := by
  simp only [plainB, Bool.and_eq_true, Bool.not_eq_true', decide_eq_true_eq, decide_eq_false_iff_not, beq_eq_false_iff_ne]
  omega
theorem u8_ne {c : UInt8} {n : Nat} (hn : n < 256) (h : c.toNat ≠ n) : c ≠ UInt8.ofNat n := fun e => h (by rw [e]; simp; omega)
theorem contains3 (c : UInt8) : [32, 9, 44].contains c = true ↔ c.toNat = 32 ∨ c.toNat = 9 ∨ c.toNat = 44 := by
  rw [List.contains_iff_mem]
  simp only [List.mem_cons, List.mem_nil_iff, or_false, ← UInt8.toNat_inj]
  rfl
theorem contains2 (c : UInt8) : [32, 9].contains c = true ↔ c.toNat = 32 ∨ c.toNat = 9 := by
  rw [List.contains_iff_mem]
  simp only [List.mem_cons, List.mem_nil_iff, or_false, ← UInt8.toNat_inj]
  rfl
theorem plain_not3 {c : UInt8} (h : plainB c = true) : [32, 9, 44].contains c = false := by
  rw [plainB_iff] at h
  cases hc : [32, 9, 44].contains c
  · rfl
  · rw [contains3] at hc; omega

theorem dropWhile_all (p : UInt8 → Bool) : ∀ (l r : List UInt8), (∀ b ∈ l, p b = true) → (l ++ r).dropWhile p = r.dropWhile p
  | [], _, _ => rfl
  | b :: l, r, h => by
    simp only [List.cons_append, List.dropWhile_cons, h b (by simp), if_true]
    exact dropWhile_all p l r (fun x hx => h x (by simp [hx]))

theorem cut_at (l r : List UInt8) (h : ∀ b ∈ l, b ≠ 61) : Lib.cut (l ++ 61 :: r) [61] = (l, r, true) := by
  have hi : Lib.indexByte (l ++ 61 :: r) 61 = l.length := by
    induction l with
    | nil => simp [Lib.indexByte]
    | cons b l ih =>
      have hb : (b == 61) = false := by simp [h b (by simp)]
      have ih' := ih (fun x hx => h x (by simp [hx]))
      rw [List.cons_append, Lib.indexByte, hb, ih']
      have : ((l.length : Int) == -1) = false := by rw [beq_eq_false_iff_ne]; omega
      simp [this]
  unfold Lib.cut
  rw [Lib.index_one, hi, if_pos (by omega)]
  simp
theorem cut_none (l : List UInt8) (h : ∀ b ∈ l, b ≠ 61) : (Lib.cut l [61]).2.2 = false := by
  rcases cut_split l with ⟨h1, _⟩ | ⟨_, h2, _, _, h5, _⟩
  · exact h1
  · exfalso
    have : (61 : UInt8) ∈ l := by rw [h5]; simp
    exact h 61 this rfl

/-! ### TrimSpace and ToLower of an ASCII name followed by blanks -/
theorem decodeL_ascii (b : UInt8) (l : List UInt8) (hb : b.toNat < 128) : Lib.decodeL (b :: l) = (b.toNat, 1) := by
  unfold Lib.decodeL
  have := decode_ascii (⟨(b :: l).toArray⟩ : ByteArray) 0 (by show 0 < (b :: l).length; simp) (by exact hb)
  rw [this]
  rfl
theorem decodeLast_ascii (l : List UInt8) (b : UInt8) (hb : b.toNat < 128) : Lib.decodeLastL (l ++ [b]) = (b.toNat, 1) := by
  unfold Lib.decodeLastL
  rw [if_neg (by simp)]
  have : (l ++ [b]).getD ((l ++ [b]).length - 1) 0 = b := by simp [List.getD]
  rw [this, if_pos hb]
theorem trimLeftD_stay (n : Nat) (b : UInt8) (l : List UInt8) (hb : b.toNat < 128) (hs : Lib.isSpaceR b.toNat = false) : Lib.trimLeftD n (b :: l) = b :: l := by
  cases n with
  | zero => rfl
  | succ n => unfold Lib.trimLeftD; rw [if_neg (by simp), decodeL_ascii b l hb]; simp [hs]
theorem trimRightD_stay (n : Nat) (b : UInt8) (l : List UInt8) (hb : b.toNat < 128) (hs : Lib.isSpaceR b.toNat = false) : Lib.trimRightD n (l ++ [b]) = l ++ [b] := by
  cases n with
  | zero => rfl
  | succ n => unfold Lib.trimRightD; rw [if_neg (by simp), decodeLast_ascii l b hb]; simp [hs]
theorem trimRightD_blanks (n : Nat) (b : UInt8) (l : List UInt8) (hb : b.toNat < 128) (hs : Lib.isSpaceR b.toNat = false) : ∀ (g : List UInt8), (∀ c ∈ g, c.toNat = 32 ∨ c.toNat = 9) → g.length ≤ n → Lib.trimRightD n ((l ++ [b]) ++ g.reverse) = l ++ [b] := by
  intro g
  induction g generalizing n with
  | nil => intro _ _; simpa using trimRightD_stay n b l hb hs
  | cons c g ih =>
    intro hg hn
    cases n with
    | zero => simp at hn
    | succ n =>
      have hc := hg c (by simp)
      have hsc : Lib.isSpaceR c.toNat = true := by rcases hc with h | h <;> rw [h] <;> rfl
      rw [List.reverse_cons, ← List.append_assoc]
      unfold Lib.trimRightD
      rw [if_neg (by simp), decodeLast_ascii _ c (by omega)]
      simp only [hsc, if_true]
      have e : ((l ++ [b]) ++ g.reverse ++ [c]).take (((l ++ [b]) ++ g.reverse ++ [c]).length - 1) = (l ++ [b]) ++ g.reverse := by
        rw [List.length_append, List.length_singleton, Nat.add_sub_cancel, List.take_left']
        rfl
      rw [e]
      exact ih n (fun x hx => hg x (by simp [hx])) (by simp at hn; omega)

theorem plain_notSpace {c : UInt8} (h : plainB c = true) : Lib.isSpaceR c.toNat = false ∧ c.toNat < 128 := by
  rw [plainB_iff] at h
  refine ⟨?_, by omega⟩
  unfold Lib.isSpaceR
  simp only [Bool.or_eq_false_iff, Bool.and_eq_false_iff, decide_eq_false_iff_not, beq_eq_false_iff_ne]
  omega

theorem trimSpace_name (k g : List UInt8) (hk : ∀ c ∈ k, plainB c = true) (hk0 : k ≠ []) (hg : ∀ c ∈ g, blankB c = true) : Lib.trimSpaceD (k ++ g) = k := by
  have hg' : ∀ c ∈ g.reverse, c.toNat = 32 ∨ c.toNat = 9 := fun c hc => (contains2 c).1 (hg c (by simpa using hc))
  unfold Lib.trimSpaceD
  obtain ⟨c0, k1, e0⟩ := List.exists_cons_of_ne_nil hk0
  have h0 := plain_notSpace (hk c0 (by rw [e0]; simp))
  have e1 : Lib.trimLeftD (k ++ g).length (k ++ g) = k ++ g := by
    rw [e0, List.cons_append]; exact trimLeftD_stay _ c0 _ h0.2 h0.1
  rw [e1]
  have e2 : k = k.dropLast ++ [k.getLast hk0] := (List.dropLast_concat_getLast hk0).symm
  have h1 := plain_notSpace (hk (k.getLast hk0) (List.getLast_mem hk0))
  have := trimRightD_blanks (k ++ g).length (k.getLast hk0) k.dropLast h1.2 h1.1 g.reverse hg' (by simp)
  rw [List.reverse_reverse, ← e2] at this
  exact this
theorem trimSpace_nil : Lib.trimSpaceD [] = [] := rfl
theorem lower_name (k : List UInt8) (hk : ∀ c ∈ k, plainB c = true) : Lib.toLowerD k = k := by
  rw [Lib.toLowerD_ascii k (fun b hb => (plain_notSpace (hk b hb)).2)]
  unfold Lib.toLowerA
  conv => rhs; rw [← List.map_id k]
  refine List.map_congr_left fun c hc => ?_
  have := (plainB_iff c).1 (hk c hc)
  unfold Lib.lowerB Lib.isUpperB
  rw [if_neg]
  · rfl
  · simp only [Bool.and_eq_true, decide_eq_true_eq, UInt8.le_iff_toNat_le]
    intro h
    exact this.2.2.2.2 h

/-! ### one item is read -/
theorem step_item {gap pre r k' v' t' : List UInt8} {p : List UInt8 × List UInt8} (hpre : ∀ c ∈ pre, sepB c = true) (hgap : ∀ c ∈ gap, blankB c = true) (hk : ∀ c ∈ p.1, plainB c = true)
    (h : Step (pre ++ (item gap p ++ r)) k' v' t') : k' = p.1 ∧ v' = p.2 ∧ t' = r := by
  have hgap3 : ∀ c ∈ gap, [32, 9, 44].contains c = true := fun c hc => by
    have := (contains2 c).1 (hgap c hc)
    rw [contains3]; omega
  have hno : ∀ b ∈ p.1 ++ gap, b ≠ 61 := by
    intro b hb e
    rcases List.mem_append.1 hb with hb | hb
    · have := (plainB_iff b).1 (hk b hb); rw [e] at this; exact this.2.2.1 rfl
    · have := (contains2 b).1 (hgap b hb); rw [e] at this; rcases this with h | h <;> cases h
  have hcut : (cutOf (pre ++ (item gap p ++ r))).2 = (gap ++ quote p.2 ++ r, true) ∧ Lib.toLowerD (Lib.trimSpaceD (cutOf (pre ++ (item gap p ++ r))).1) = p.1 := by
    unfold cutOf Lib.trimLeftS
    rw [dropWhile_all (fun x => [32, 9, 44].contains x) pre _ hpre]
    by_cases hk0 : p.1 = []
    · have e : item gap p ++ r = gap ++ 61 :: (gap ++ quote p.2 ++ r) := by simp [item, hk0]
      rw [e, dropWhile_all (fun x => [32, 9, 44].contains x) gap _ hgap3]
      have e2 : (61 :: (gap ++ quote p.2 ++ r)).dropWhile ([32, 9, 44].contains ·) = [] ++ 61 :: (gap ++ quote p.2 ++ r) := by
        rw [List.dropWhile_cons, if_neg (by decide)]; rfl
      rw [e2, cut_at [] _ (by simp)]
      refine ⟨rfl, ?_⟩
      rw [hk0, trimSpace_nil]; rfl
    · obtain ⟨c0, k1, e0⟩ := List.exists_cons_of_ne_nil hk0
      have e : item gap p ++ r = (p.1 ++ gap) ++ 61 :: (gap ++ quote p.2 ++ r) := by simp [item]
      have e2 : ((p.1 ++ gap) ++ 61 :: (gap ++ quote p.2 ++ r)).dropWhile ([32, 9, 44].contains ·) = (p.1 ++ gap) ++ 61 :: (gap ++ quote p.2 ++ r) := by
        rw [e0]
        simp only [List.cons_append]
        rw [List.dropWhile_cons, if_neg]
        rw [plain_not3 (hk c0 (by rw [e0]; simp))]
        exact Bool.false_ne_true
      rw [e, e2, cut_at _ _ hno]
      refine ⟨rfl, ?_⟩
      rw [trimSpace_name p.1 gap hk hk0 hgap, lower_name p.1 hk]
  obtain ⟨_, h2, h3⟩ := h
  rw [hcut.2] at h2
  refine ⟨h2, ?_⟩
  rw [hcut.1] at h3
  have e3 : Lib.trimLeftS (gap ++ quote p.2 ++ r) [32, 9] = 34 :: (escs p.2 ++ 34 :: r) := by
    unfold Lib.trimLeftS
    rw [List.append_assoc, dropWhile_all (fun x => [32, 9].contains x) gap _ hgap]
    have : quote p.2 ++ r = 34 :: (escs p.2 ++ 34 :: r) := by simp [quote]
    rw [this, List.dropWhile_cons, if_neg (by decide)]
  rw [e3] at h3
  rcases h3 with ⟨t, ht, hv, hr⟩ | ⟨hn, _⟩
  · have : t = escs p.2 ++ 34 :: r := by injection ht with _ h; exact h.symm
    rw [this, unq_escs] at hv hr
    exact ⟨hv, hr⟩
  · exact absurd rfl (hn _)

theorem run_end {E : List UInt8} (hE : ∀ c ∈ E, sepB c = true) {es : List (List UInt8 × List UInt8)} (h : Run E es) : es = [] := by
  have hc : (cutOf E).2.2 = false := by
    unfold cutOf Lib.trimLeftS
    have := dropWhile_all ([32, 9, 44].contains ·) E [] hE
    rw [List.append_nil] at this
    rw [this]
    rfl
  cases es with
  | nil => rfl
  | cons e es =>
    obtain ⟨t', hs, _⟩ := h
    rw [hs.1] at hc
    cases hc

theorem run_tail {gap sep E : List UInt8} (hgap : ∀ c ∈ gap, blankB c = true) (hsep : ∀ c ∈ sep, sepB c = true) (hE : ∀ c ∈ E, sepB c = true) :
    ∀ (ps es : List (List UInt8 × List UInt8)), (∀ p ∈ ps, ∀ c ∈ p.1, plainB c = true) → Run (tailT gap sep E ps) es → es = ps
  | [], es, _, h => run_end hE h
  | p :: ps, [], hp, h => by
    exfalso
    have hc : (cutOf (tailT gap sep E (p :: ps))).2.2 = false := h
    rcases cutOf_split (tailT gap sep E (p :: ps)) with ⟨_, h2⟩ | ⟨h1, _⟩
    · have : (61 : UInt8) ∈ tailT gap sep E (p :: ps) := by simp [tailT, item]
      exact absurd this (List.count_eq_zero.1 h2)
    · rw [hc] at h1; cases h1
  | p :: ps, e :: es, hp, h => by
    obtain ⟨t', hs, hr⟩ := h
    obtain ⟨h1, h2, h3⟩ := step_item hsep hgap (hp p (by simp)) hs
    subst h3
    have ih := run_tail hgap hsep hE ps es (fun q hq => hp q (by simp [hq])) hr
    have : e = p := Prod.ext h1 h2
    rw [this, ih]

theorem run_text {gap sep E : List UInt8} (hgap : ∀ c ∈ gap, blankB c = true) (hsep : ∀ c ∈ sep, sepB c = true) (hE : ∀ c ∈ E, sepB c = true)
    (ps es : List (List UInt8 × List UInt8)) (hp : ∀ p ∈ ps, ∀ c ∈ p.1, plainB c = true) (h : Run (textT gap sep E ps) es) : es = ps := by
  cases ps with
  | nil => exact run_end hE h
  | cons p ps =>
    cases es with
    | nil =>
      exfalso
      have hc : (cutOf (textT gap sep E (p :: ps))).2.2 = false := h
      rcases cutOf_split (textT gap sep E (p :: ps)) with ⟨_, h2⟩ | ⟨h1, _⟩
      · have : (61 : UInt8) ∈ textT gap sep E (p :: ps) := by simp [textT, item]
        exact absurd this (List.count_eq_zero.1 h2)
      · rw [hc] at h1; cases h1
    | cons e es =>
      obtain ⟨t', hs, hr⟩ := h
      have hs' : Step ([] ++ (item gap p ++ tailT gap sep E ps)) e.1 e.2 t' := hs
      obtain ⟨h1, h2, h3⟩ := step_item (by simp) hgap (hp p (by simp)) hs'
      subst h3
      have ih := run_tail hgap hsep hE ps es (fun q hq => hp q (by simp [hq])) hr
      have : e = p := Prod.ext h1 h2
      rw [this, ih]

/-! ### the text, item by item from the left -/
def built (gap sep : List UInt8) : List (List UInt8 × List UInt8) → List UInt8
  | [] => []
  | p :: ps => item gap p ++ tailT gap sep [] ps
theorem tailT_append (gap sep E : List UInt8) (ps qs : List (List UInt8 × List UInt8)) : tailT gap sep E (ps ++ qs) = tailT gap sep [] ps ++ tailT gap sep E qs := by
  induction ps with
  | nil => simp [tailT]
  | cons p ps ih => simp [tailT, ih]
theorem built_snoc (gap sep : List UInt8) (ps : List (List UInt8 × List UInt8)) (p : List UInt8 × List UInt8) (h : ps ≠ []) : built gap sep (ps ++ [p]) = built gap sep ps ++ sep ++ item gap p := by
  cases ps with
  | nil => exact absurd rfl h
  | cons q ps =>
    show item gap q ++ tailT gap sep [] (ps ++ [p]) = _
    rw [tailT_append]
    simp [built, tailT]
theorem built_one (gap sep : List UInt8) (p : List UInt8 × List UInt8) : built gap sep [p] = item gap p := by simp [built, tailT]
theorem text_built (gap sep E : List UInt8) (ps : List (List UInt8 × List UInt8)) : textT gap sep E ps = built gap sep ps ++ E := by
  cases ps with
  | nil => simp [textT, built]
  | cons p ps =>
    show item gap p ++ tailT gap sep E ps = item gap p ++ tailT gap sep [] ps ++ E
    have := tailT_append gap sep E ps []
    rw [List.append_nil] at this
    rw [this]
    simp [tailT]

/-! ### the map that was filled: last values, how many -/
def keys (ps : List (List UInt8 × List UInt8)) : List (List UInt8) := ps.map (·.1)
def lastC : List (List UInt8 × List UInt8) → Nat
  | [] => 0
  | p :: ps => (if p.1 ∈ keys ps then 0 else 1) + lastC ps
theorem lastC_snoc (k v : List UInt8) : ∀ ps : List (List UInt8 × List UInt8), lastC (ps ++ [(k, v)]) = if k ∈ keys ps then lastC ps else lastC ps + 1
  | [] => by simp [lastC, keys]
  | q :: ps => by
    have ih := lastC_snoc k v ps
    have hk : keys (ps ++ [(k, v)]) = keys ps ++ [k] := by simp [keys]
    show (if q.1 ∈ keys (ps ++ [(k, v)]) then 0 else 1) + lastC (ps ++ [(k, v)]) = if k ∈ q.1 :: keys ps then (if q.1 ∈ keys ps then 0 else 1) + lastC ps else (if q.1 ∈ keys ps then 0 else 1) + lastC ps + 1
    rw [ih, hk]
    by_cases h1 : k ∈ keys ps
    · rw [if_pos h1, if_pos (show k ∈ q.1 :: keys ps by simp [h1])]
      have : q.1 ∈ keys ps ++ [k] ↔ q.1 ∈ keys ps := by
        simp only [List.mem_append, List.mem_singleton]
        exact ⟨fun h => h.elim id (fun e => e ▸ h1), Or.inl⟩
      simp only [this]
    · rw [if_neg h1]
      by_cases h2 : q.1 = k
      · rw [if_pos (show q.1 ∈ keys ps ++ [k] by simp [h2]), if_pos (show k ∈ q.1 :: keys ps by simp [h2]), if_neg (show q.1 ∉ keys ps by rw [h2]; exact h1)]
        omega
      · rw [if_neg (show k ∉ q.1 :: keys ps by simp only [List.mem_cons, not_or]; exact ⟨fun e => h2 e.symm, h1⟩)]
        have : q.1 ∈ keys ps ++ [k] ↔ q.1 ∈ keys ps := by
          simp only [List.mem_append, List.mem_singleton]
          exact ⟨fun h => h.elim id (fun e => absurd e h2), Or.inl⟩
        simp only [this]
        omega

section
variable {H : Type}
theorem isMap_fillM : ∀ (ps : List (List UInt8 × List UInt8)) (m : DataW H), Maps.IsMap m → Maps.IsMap (fillM m ps)
  | [], _, h => h
  | p :: ps, m, h => isMap_fillM ps (m.put (.string p.1) (.lit (.string p.2))) (h.put _ _)
theorem ne_key {a b : List UInt8} (h : a ≠ b) : Lit.string a ≠ Lit.string b := fun e => h (by injection e)
theorem atKey_fillM_not (k : List UInt8) (z : DataW H) : ∀ (ps : List (List UInt8 × List UInt8)) (m : DataW H), k ∉ keys ps → (fillM m ps).atKey (.string k) z = m.atKey (.string k) z
  | [], _, _ => rfl
  | p :: ps, m, h => by
    simp only [keys, List.map_cons, List.mem_cons, not_or] at h
    show (fillM (m.put (.string p.1) (.lit (.string p.2))) ps).atKey (.string k) z = _
    rw [atKey_fillM_not k z ps _ h.2, Maps.atKey_put_other (ne_key h.1)]
theorem has_fillM_not (k : List UInt8) : ∀ (ps : List (List UInt8 × List UInt8)) (m : DataW H), k ∉ keys ps → Maps.has (fillM m ps) (.string k) = Maps.has m (.string k)
  | [], _, _ => rfl
  | p :: ps, m, h => by
    simp only [keys, List.map_cons, List.mem_cons, not_or] at h
    show Maps.has (fillM (m.put (.string p.1) (.lit (.string p.2))) ps) (.string k) = _
    rw [has_fillM_not k ps _ h.2, Maps.has_put_other (ne_key h.1)]
theorem fillM_append (m : DataW H) (ps qs : List (List UInt8 × List UInt8)) : fillM m (ps ++ qs) = fillM (fillM m ps) qs := by simp [fillM]
/-- At a key's last place the map holds that value. -/
theorem fillM_last (ps qs : List (List UInt8 × List UInt8)) (k v : List UInt8) (h : k ∉ keys qs) (z : DataW H) :
    (fillM (.map []) (ps ++ (k, v) :: qs)).atKey (.string k) z = .lit (.string v) ∧ Maps.has (fillM (.map [] : DataW H) (ps ++ (k, v) :: qs)) (.string k) = true := by
  have hm := isMap_fillM (H := H) ps (.map []) Maps.isMap_empty
  have e : fillM (.map [] : DataW H) (ps ++ (k, v) :: qs) = fillM ((fillM (.map []) ps).put (.string k) (.lit (.string v))) qs := by
    rw [fillM_append]; rfl
  rw [e, atKey_fillM_not k z qs _ h, has_fillM_not k qs _ h]
  exact ⟨Maps.atKey_put_same (k := .string k) hm trivial _ _, Maps.has_put_same (k := .string k) hm trivial _⟩
theorem has_fillM_mem (k : List UInt8) : ∀ (ps : List (List UInt8 × List UInt8)) (m : DataW H), Maps.IsMap m → Maps.has (fillM m ps) (.string k) = (Maps.has m (.string k) || decide (k ∈ keys ps))
  | [], m, _ => by simp [fillM, keys]
  | p :: ps, m, h => by
    show Maps.has (fillM (m.put (.string p.1) (.lit (.string p.2))) ps) (.string k) = _
    rw [has_fillM_mem k ps _ (h.put _ _)]
    by_cases e : k = p.1
    · subst e
      rw [Maps.has_put_same (k := .string p.1) h trivial]
      simp [keys]
    · rw [Maps.has_put_other (ne_key e)]
      have : (k ∈ keys (p :: ps)) ↔ (k ∈ keys ps) := by simp [keys, e]
      simp only [this]
theorem size_fillM_aux : ∀ (qs ps : List (List UInt8 × List UInt8)), Maps.size (fillM (.map [] : DataW H) ps) = lastC ps → Maps.size (fillM (.map [] : DataW H) (ps ++ qs)) = lastC (ps ++ qs)
  | [], ps, h => by simpa using h
  | (k, v) :: qs, ps, h => by
    have e : ps ++ (k, v) :: qs = (ps ++ [(k, v)]) ++ qs := by simp
    rw [e]
    refine size_fillM_aux qs (ps ++ [(k, v)]) ?_
    rw [fillM_snoc, Maps.size_put (tidy_fillM ps _ Maps.tidy_empty), h, lastC_snoc, has_fillM_mem k ps _ Maps.isMap_empty]
    by_cases hk : k ∈ keys ps
    · simp [hk]
    · have : Maps.has (.map [] : DataW H) (.string k) = false := rfl
      simp [hk, this]
theorem size_fillM (ps : List (List UInt8 × List UInt8)) : Maps.size (fillM (.map [] : DataW H) ps) = lastC ps := by
  have := size_fillM_aux (H := H) ps [] rfl
  simpa using this
end
end Go.Proofs.Qxb6606102aDoor.Pl
