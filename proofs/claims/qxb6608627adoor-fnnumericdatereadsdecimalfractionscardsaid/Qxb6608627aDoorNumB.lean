import Derived.Test.Qxb6608627aDoorNum
import Derived.Test.Qxb6608627aDoorLeftPlain
namespace Go.Proofs.Qxb6608627aDoor

/-- what holds of readFloat's state behind k characters -/
structure RFok (σ : RF) (k : Nat) : Prop where
  lt : σ.mant < 10 ^ σ.ndM
  ge : 1 ≤ σ.ndM → 10 ^ (σ.ndM - 1) ≤ σ.mant
  m19 : σ.ndM ≤ 19
  min : σ.ndM = min σ.nd 19
  ndk : σ.nd ≤ k
  dplo : -(k : Int) ≤ σ.dp
  dphi : σ.dp ≤ (σ.nd : Int)
  trn : σ.tr = true → 19 < σ.nd
theorem rfok0 : RFok rf0 0 := ⟨by decide, by decide, by decide, by decide, by decide, by decide, by decide, by decide⟩
theorem rfok_step {σ : RF} {k : Nat} (h : RFok σ k) (c : UInt8) (hc : dig c ∨ c.toNat = 46) : RFok (σ.step c) (k + 1) := by
  obtain ⟨h1, h2, h3, h4, h5, h6, h7, h8⟩ := h
  unfold RF.step
  by_cases hd : c.toNat = 46
  · rw [if_pos hd]
    exact ⟨h1, h2, h3, h4, by show σ.nd ≤ _; omega, by show -_ ≤ (σ.nd : Int); omega, Int.le_refl _, h8⟩
  · rw [if_neg hd]
    have hc' : dig c := hc.resolve_right hd
    unfold dig at hc'
    by_cases hz : c.toNat = 48 ∧ σ.nd = 0
    · rw [if_pos hz]
      exact ⟨h1, h2, h3, h4, by show σ.nd ≤ _; omega, by show _ ≤ σ.dp - 1; omega, by show σ.dp - 1 ≤ _; omega, h8⟩
    · rw [if_neg hz]
      by_cases hm : σ.ndM < 19
      · rw [if_pos hm]
        refine ⟨?_, ?_, by show σ.ndM + 1 ≤ 19; omega, by show σ.ndM + 1 = min (σ.nd + 1) 19; omega, by show σ.nd + 1 ≤ _; omega, by show _ ≤ σ.dp; omega, by show σ.dp ≤ ((σ.nd + 1 : Nat) : Int); omega, fun h => by have := h8 h; show 19 < σ.nd + 1; omega⟩
        · show σ.mant * 10 + (c.toNat - 48) < 10 ^ (σ.ndM + 1)
          rw [Nat.pow_succ]
          omega
        · intro _
          show 10 ^ (σ.ndM + 1 - 1) ≤ σ.mant * 10 + (c.toNat - 48)
          rw [Nat.add_sub_cancel]
          rcases Nat.eq_zero_or_pos σ.ndM with h0 | h0
          · have : σ.nd = 0 := by omega
            rw [h0, Nat.pow_zero]
            omega
          · have h9 := h2 h0
            have e : 10 ^ σ.ndM = 10 ^ (σ.ndM - 1) * 10 := by rw [← Nat.pow_succ]; congr 1; omega
            rw [e]
            omega
      · rw [if_neg hm]
        exact ⟨h1, h2, h3, by show σ.ndM = min (σ.nd + 1) 19; omega, by show σ.nd + 1 ≤ _; omega, by show _ ≤ σ.dp; omega, by show σ.dp ≤ ((σ.nd + 1 : Nat) : Int); omega, fun _ => by show 19 < σ.nd + 1; omega⟩
theorem rfok_run : ∀ (l : List UInt8) {σ : RF} {k : Nat}, RFok σ k → (∀ c ∈ l, dig c ∨ c.toNat = 46) → RFok (σ.run l) (k + l.length)
  | [], _, _, h, _ => h
  | c :: l, σ, k, h, hd => by
    have := rfok_run l (rfok_step h c (hd c (by simp))) (fun x hx => hd x (by simp [hx]))
    rw [List.length_cons, show k + (l.length + 1) = k + 1 + l.length by omega]
    exact this
/-- what holds of the decimal while it is set -/
structure Dok (D : Dec) (n : Nat) : Prop where
  nd : D.nd = min n 800
  dig : ∀ i, i < D.nd → 48 ≤ D.d i ∧ D.d i ≤ 57
  lead : 1 ≤ D.nd → 49 ≤ D.d 0
theorem dok0 : Dok d00 0 := ⟨rfl, fun i hi => absurd hi (Nat.not_lt_zero _), fun h => absurd h (by decide)⟩
theorem dok_step {D : Dec} {σ : RF} (h : Dok D σ.nd) (c : UInt8) (hc : dig c ∨ c.toNat = 46) : Dok (dstep D c) (σ.step c).nd := by
  obtain ⟨h1, h2, h3⟩ := h
  unfold dstep RF.step
  by_cases hd : c.toNat = 46
  · rw [if_pos hd, if_pos hd]
    exact ⟨h1, h2, h3⟩
  · rw [if_neg hd, if_neg hd]
    have hc' : Qxb6608627aDoor.dig c := hc.resolve_right hd
    unfold Qxb6608627aDoor.dig at hc'
    by_cases hz : c.toNat = 48 ∧ σ.nd = 0
    · rw [if_pos hz, if_pos ⟨hz.1, by omega⟩]
      exact ⟨h1, h2, h3⟩
    · rw [if_neg hz, if_neg (fun h => hz ⟨h.1, by omega⟩)]
      have hs : (if σ.ndM < 19 then { σ with sd := true, nd := σ.nd + 1, mant := σ.mant * 10 + (c.toNat - 48), ndM := σ.ndM + 1 } else { σ with sd := true, nd := σ.nd + 1, tr := σ.tr || !decide (c.toNat = 48) } : RF).nd = σ.nd + 1 := by split <;> rfl
      rw [hs]
      by_cases h8 : D.nd < 800
      · rw [if_pos h8]
        refine ⟨by show D.nd + 1 = _; omega, fun i hi => ?_, fun _ => ?_⟩
        · have hi' : i < D.nd + 1 := hi
          show 48 ≤ put D.d D.nd c.toNat i ∧ put D.d D.nd c.toNat i ≤ 57
          by_cases he : i = D.nd
          · rw [he, put_same]; exact hc'
          · rw [put_other _ _ he]; exact h2 i (by omega)
        · show 49 ≤ put D.d D.nd c.toNat 0
          by_cases he : 0 = D.nd
          · rw [← he, put_same]; omega
          · rw [put_other _ _ he]; exact h3 (by omega)
      · rw [if_neg h8]
        exact ⟨by show D.nd = _; omega, h2, h3⟩
theorem dok_run : ∀ (l : List UInt8) {D : Dec} {σ : RF}, Dok D σ.nd → (∀ c ∈ l, dig c ∨ c.toNat = 46) → Dok (drun D l) (σ.run l).nd
  | [], _, _, h, _ => h
  | c :: l, D, σ, h, hd => dok_run l (dok_step h c (hd c (by simp))) (fun x hx => hd x (by simp [hx]))
theorem norm_of (l : List UInt8) (hl : ∀ c ∈ l, dig c ∨ c.toNat = 46) (h : 1 ≤ (rf0.run l).nd) : Norm (drun d00 l).d (drun d00 l).nd := by
  have h1 := dok_run l (σ := rf0) dok0 hl
  have h2 := h1.nd
  exact ⟨by omega, by omega, h1.dig, h1.lead (by omega)⟩

/-- with few digits: what a reads -/
theorem few_a : ∀ (a : List UInt8) (σ : RF), (∀ c ∈ a, dig c) → σ.ndM = σ.nd → σ.nd + a.length ≤ 19 → (σ.run a).mant = σ.mant * 10 ^ a.length + lval a ∧ (σ.run a).ndM = (σ.run a).nd ∧ (σ.run a).tr = σ.tr ∧ (σ.run a).nd ≤ σ.nd + a.length ∨ ¬ (σ.nd = 0 → σ.mant = 0)
  | [], σ, _, h, _ => Or.inl ⟨by simp [RF.run, lval], h, rfl, by simp [RF.run]⟩
  | c :: a, σ, hd, hm, hn => by
    by_cases h0 : σ.nd = 0 → σ.mant = 0
    · refine Or.inl ?_
      have hc := hd c (by simp)
      rw [List.length_cons] at hn
      have hs : (σ.step c).mant = σ.mant * 10 + (c.toNat - 48) ∧ (σ.step c).ndM = (σ.step c).nd ∧ (σ.step c).tr = σ.tr ∧ (σ.step c).nd ≤ σ.nd + 1 ∧ ((σ.step c).nd = 0 → (σ.step c).mant = 0) := by
        unfold RF.step
        rw [if_neg (dig_ne hc)]
        by_cases hz : c.toNat = 48 ∧ σ.nd = 0
        · rw [if_pos hz]
          have := h0 hz.2
          exact ⟨by show σ.mant = _; rw [this]; omega, hm, rfl, by show σ.nd ≤ _; omega, fun _ => this⟩
        · rw [if_neg hz, if_pos (by omega)]
          exact ⟨rfl, by show σ.ndM + 1 = σ.nd + 1; omega, rfl, Nat.le_refl _, fun h => absurd h (Nat.succ_ne_zero _)⟩
      obtain ⟨s1, s2, s3, s4, s5⟩ := hs
      rcases few_a a (σ.step c) (fun x hx => hd x (by simp [hx])) s2 (by omega) with ⟨r1, r2, r3, r4⟩ | r
      · refine ⟨?_, r2, r3.trans s3, by show ((σ.step c).run a).nd ≤ _; rw [List.length_cons]; omega⟩
        show ((σ.step c).run a).mant = _
        rw [r1, s1, lval, List.length_cons, Nat.pow_succ, Nat.add_mul]
        have e : σ.mant * 10 * 10 ^ a.length = σ.mant * (10 ^ a.length * 10) := by rw [Nat.mul_assoc, Nat.mul_comm 10]
        rw [e]
        omega
      · exact absurd s5 r
    · exact Or.inr h0
theorem few_dp : ∀ (b : List UInt8) (σ : RF), (∀ c ∈ b, dig c) → σ.ndM + b.length ≤ 19 → (σ.run b).dp - ((σ.run b).ndM : Int) = σ.dp - (σ.ndM : Int) - (b.length : Int)
  | [], σ, _, _ => by simp [RF.run]
  | c :: b, σ, hd, hn => by
    have hc := hd c (by simp)
    rw [List.length_cons] at hn
    have hs : (σ.step c).dp - ((σ.step c).ndM : Int) = σ.dp - (σ.ndM : Int) - 1 ∧ (σ.step c).ndM ≤ σ.ndM + 1 := by
      unfold RF.step
      rw [if_neg (dig_ne hc)]
      split
      · exact ⟨by show σ.dp - 1 - (σ.ndM : Int) = _; omega, Nat.le_succ _⟩
      · rw [if_pos (by omega)]
        exact ⟨by show σ.dp - ((σ.ndM + 1 : Nat) : Int) = _; omega, Nat.le_refl _⟩
    have := few_dp b (σ.step c) (fun x hx => hd x (by simp [hx])) (by omega)
    show ((σ.step c).run b).dp - (((σ.step c).run b).ndM : Int) = _
    rw [this, List.length_cons]
    push_cast
    omega
theorem few (a b : List UInt8) (ha : ∀ c ∈ a, dig c) (hb : ∀ c ∈ b, dig c) (hn : a.length + b.length ≤ 19) :
    (rf0.run (a ++ 46 :: b)).mant = lval a * 10 ^ b.length + lval b ∧ (rf0.run (a ++ 46 :: b)).tr = false ∧ (rf0.run (a ++ 46 :: b)).dp - ((rf0.run (a ++ 46 :: b)).ndM : Int) = -(b.length : Int) := by
  have hka := rfok_run a rfok0 (fun c hc => Or.inl (ha c hc))
  rcases few_a a rf0 ha rfl (by show 0 + _ ≤ _; omega) with ⟨a1, a2, a3, a4⟩ | h
  · have e46 : ((46 : UInt8).toNat = 46) := by decide
    have hrun : rf0.run (a ++ 46 :: b) = ((rf0.run a).step 46).run b := by rw [run_append]; rfl
    rw [hrun]
    clear hrun
    generalize hτ : rf0.run a = τ at *
    have hs : τ.step 46 = { τ with dot := true, dp := (τ.nd : Int) } := by unfold RF.step; rw [if_pos e46]
    have a1' : τ.mant = lval a := by rw [a1]; simp [rf0]
    have hz : τ.nd = 0 → τ.mant = 0 := fun h0 => by
      have := hka.lt
      rw [a2, h0] at this
      simpa using this
    have h4 : τ.nd ≤ a.length := by have : rf0.nd = 0 := rfl; omega
    rcases few_a b (τ.step 46) hb (by rw [hs]; exact a2) (by rw [hs]; show τ.nd + _ ≤ _; omega) with ⟨b1, b2, b3, b4⟩ | h
    · have hd := few_dp b (τ.step 46) hb (by rw [hs]; show τ.ndM + _ ≤ _; omega)
      refine ⟨by rw [b1, hs]; show τ.mant * _ + _ = _; rw [a1'], by rw [b3, hs]; exact a3, ?_⟩
      show ((τ.step 46).run b).dp - (((τ.step 46).run b).ndM : Int) = _
      rw [hd, hs]
      show (τ.nd : Int) - (τ.ndM : Int) - _ = _
      omega
    · rw [hs] at h
      exact absurd hz h
  · exact absurd (fun _ => rfl) h
end Go.Proofs.Qxb6608627aDoor
