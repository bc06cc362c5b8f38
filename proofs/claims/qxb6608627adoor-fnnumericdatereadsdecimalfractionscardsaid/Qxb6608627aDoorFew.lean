import Derived.Test.Qxb6608627aDoorNd
import Derived.Test.Qxb6608627aDoorSmall
namespace Go.Proofs.Qxb6608627aDoor
open Go.RowKit

theorem dv_lval : ∀ (l : List UInt8) (v : Nat), dv (l.map fun c => c.toNat) v = v * 10 ^ l.length + lval l
  | [], v => by simp [dv, lval]
  | c :: l, v => by
    have h := dv_lval l (v * 10 + (c.toNat - 48))
    unfold dv at h ⊢
    rw [List.map_cons, List.foldl_cons, h, lval, List.length_cons, Nat.pow_succ, Nat.add_mul, Nat.mul_assoc, Nat.mul_comm 10, Nat.add_assoc]
theorem lval_lt' : ∀ (l : List UInt8), (∀ c ∈ l, dig c) → lval l < 10 ^ l.length
  | [], _ => by simp [lval]
  | c :: l, h => by
    have h1 := lval_lt' l (fun x hx => h x (by simp [hx]))
    have h2 := h c (by simp)
    unfold dig at h2
    have h3 : (c.toNat - 48) * 10 ^ l.length ≤ 9 * 10 ^ l.length := Nat.mul_le_mul_right _ (by omega)
    rw [lval, List.length_cons, Nat.pow_succ]
    omega

theorem quo_zeros : (List.range 16).all (fun k => floatBits .quo .f64 0 (f10 k) == some 0) = true := by kernel_rfl
theorem quo_zero {k : Nat} (h : k < 16) : floatBits .quo .f64 0 (f10 k) = some 0 := eq_of_beq (List.all_eq_true.1 quo_zeros k (List.mem_range.2 h))

/-- few digits: atof64 answers the quotient -/
theorem at_few (hiT loT fT : Nat → Nat) (hfT : ∀ i, i < 23 → fT i = f10 i) (a b : List UInt8) (ha : ∀ c ∈ a, dig c) (hb : ∀ c ∈ b, dig c) (hn : a.length + b.length ≤ 15) :
    ∃ Z, Z ≤ ovB ∧ floatBits .quo .f64 (floatOfInt .f64 ((lval a * 10 ^ b.length + lval b : Nat) : Int)) (f10 b.length) = some Z ∧
      ∀ (s : ByteArray) (a' b' : List UInt8), Txt s a' b' → rf0.run s.data.toList = rf0.run (a ++ 46 :: b) → AtDoes hiT loT fT s Z false := by
  obtain ⟨f1, f2, f3⟩ := few a b ha hb (by omega)
  have hlt : lval a * 10 ^ b.length + lval b < 1000000000000000 := by
    have h1 := lval_lt' a ha
    have h2 := lval_lt' b hb
    have h3 : (lval a + 1) * 10 ^ b.length ≤ 10 ^ a.length * 10 ^ b.length := Nat.mul_le_mul_right _ h1
    rw [← Nat.pow_add, Nat.add_mul] at h3
    have h4 : (10 : Nat) ^ (a.length + b.length) ≤ 10 ^ 15 := Nat.pow_le_pow_right (by decide) hn
    have h5 : (10 : Nat) ^ 15 = 1000000000000000 := by decide
    omega
  rw [← f1] at hlt ⊢
  generalize rf0.run (a ++ 46 :: b) = σ at f1 f2 f3 hlt ⊢
  clear f1
  by_cases hm : σ.mant = 0
  · refine ⟨0, Nat.zero_le _, ?_, fun s a' b' hT h1 => at_zero hiT loT fT s a' b' hT σ h1 hm⟩
    rw [hm]
    exact quo_zero (by omega)
  · have hp : -345 ≤ σ.dp - (σ.ndM : Int) ∧ σ.dp - (σ.ndM : Int) ≤ 310 := by omega
    by_cases hb0 : b.length = 0
    · refine ⟨floatOfInt .f64 (σ.mant : Int), foi_le _, ?_, fun s a' b' hT h1 => at_exact hiT loT fT s a' b' hT σ h1 hm hp f2 _ (fun B pb pbo lb lbo fb fbo w t => ?_)⟩
      · rw [hb0]; exact quo_one σ.mant (by omega) hm
      · rw [f3, hb0]
        exact ex_zero σ.mant (by omega) w t.f0
    · obtain ⟨n, j, hn', hn0⟩ := f10_num (k := b.length) (by omega)
      obtain ⟨R, hR, hR2⟩ := quo_ex (foi_le σ.mant) hn' hn0
      refine ⟨R, hR, hR2, fun s a' b' hT h1 => at_exact hiT loT fT s a' b' hT σ h1 hm hp f2 _ (fun B pb pbo lb lbo fb fbo w t => ?_)⟩
      rw [f3]
      exact ex_quo σ.mant b.length (by omega) (by omega) fb fbo (f10 b.length) R hR2 w t.f0 t.fp (by rw [t.fpc _ (by omega), hfT _ (by omega)])

/-- the two texts: one answer; with few digits it is the quotient -/
theorem nd_both (hiT loT fT : Nat → Nat) (hh : ∀ i, hiT i < 18446744073709551616) (hl : ∀ i, loT i < 18446744073709551616) (hfT : ∀ i, i < 23 → fT i = f10 i) (a b : List UInt8) (ha : ∀ c ∈ a, dig c) (hb : ∀ c ∈ b, dig c) (hne : a ≠ []) (hn : a.length + b.length ≤ 1048576)
    (s z : ByteArray) (hs : s.data.toList = a ++ 46 :: b) (hz : z.data.toList = 48 :: (a ++ 46 :: b)) :
    ∃ Z, Z ≤ ovB ∧ NdDoes hiT loT fT s Z ∧ NdDoes hiT loT fT z Z ∧ (a.length + b.length ≤ 15 → floatBits .quo .f64 (floatOfInt .f64 ((lval a * 10 ^ b.length + lval b : Nat) : Int)) (f10 b.length) = some Z) := by
  have hTs : Txt s a b := ⟨hs, ha, hb, hne, by rw [Lib.size_eq, hs, List.length_append, List.length_cons]; omega⟩
  have hTz : Txt z (48 :: a) b := ⟨hz, fun c hc => by
    rcases List.mem_cons.1 hc with h | h
    · rw [h]; unfold dig; decide
    · exact ha c h, hb, by simp, by rw [Lib.size_eq, hz, List.length_cons, List.length_append, List.length_cons]; omega⟩
  have ez : rf0.run z.data.toList = rf0.run (a ++ 46 :: b) := by rw [hz]; exact rf_zero a b ha hne
  by_cases h15 : a.length + b.length ≤ 15
  · obtain ⟨Z, hZ, hq, hat⟩ := at_few hiT loT fT hfT a b ha hb h15
    exact ⟨Z, hZ, nd_does hiT loT fT s a b hTs Z false (hat s a b hTs (by rw [hs])), nd_does hiT loT fT z (48 :: a) b hTz Z false (hat z (48 :: a) b hTz ez), fun _ => hq⟩
  · have hall := txt_all hTs
    rw [hs] at hall
    obtain ⟨Z, er, hZ, hat⟩ := at_ex hiT loT fT hh hl hfT (rf0.run (a ++ 46 :: b)) (drun d00 (a ++ 46 :: b)) _ (rfok_run (a ++ 46 :: b) rfok0 hall) (fun h => norm_of _ hall h)
    exact ⟨Z, hZ, nd_does hiT loT fT s a b hTs Z er (hat s a b hTs (by rw [hs]) (by rw [hs])), nd_does hiT loT fT z (48 :: a) b hTz Z er (hat z (48 :: a) b hTz ez (by rw [hz]; exact d_zero a b ha)), fun h => absurd h h15⟩
end Go.Proofs.Qxb6608627aDoor
