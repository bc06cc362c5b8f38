import Derived.Test.Qxb6608627aDoorBase
namespace Go.Proofs.Qxb6608627aDoor

/-- readFloat's state -/
structure RF where
  mant : Nat
  nd : Nat
  ndM : Nat
  dp : Int
  tr : Bool
  dot : Bool
  sd : Bool
def RF.step (σ : RF) (c : UInt8) : RF :=
  if c.toNat = 46 then { σ with dot := true, dp := (σ.nd : Int) }
  else if c.toNat = 48 ∧ σ.nd = 0 then { σ with sd := true, dp := σ.dp - 1 }
  else if σ.ndM < 19 then { σ with sd := true, nd := σ.nd + 1, mant := σ.mant * 10 + (c.toNat - 48), ndM := σ.ndM + 1 }
  else { σ with sd := true, nd := σ.nd + 1, tr := σ.tr || !decide (c.toNat = 48) }
def RF.run (σ : RF) : List UInt8 → RF
  | [] => σ
  | c :: l => (σ.step c).run l
def rf0 : RF := ⟨0, 0, 0, 0, false, false, false⟩
/-- the decimal's state while it is set -/
def dstep (D : Dec) (c : UInt8) : Dec :=
  if c.toNat = 46 then { D with dp := (D.nd : Int) }
  else if c.toNat = 48 ∧ D.nd = 0 then { D with dp := D.dp - 1 }
  else if D.nd < 800 then { D with d := put D.d D.nd c.toNat, nd := D.nd + 1 }
  else { D with tr := D.tr || !decide (c.toNat = 48) }
def drun (D : Dec) : List UInt8 → Dec
  | [] => D
  | c :: l => drun (dstep D c) l
def d00 : Dec := ⟨fun _ => 0, 0, 0, false⟩
def dig (c : UInt8) : Prop := 48 ≤ c.toNat ∧ c.toNat ≤ 57
theorem dig_ne {c : UInt8} (h : dig c) : ¬ c.toNat = 46 := by unfold dig at h; omega

theorem run_append (σ : RF) : ∀ (a b : List UInt8), σ.run (a ++ b) = (σ.run a).run b
  | [], _ => rfl
  | c :: a, b => by
    show (σ.step c).run (a ++ b) = _
    rw [run_append (σ.step c) a b]; rfl
theorem drun_append (D : Dec) : ∀ (a b : List UInt8), drun D (a ++ b) = drun (drun D a) b
  | [], _ => rfl
  | c :: a, b => by
    show drun (dstep D c) (a ++ b) = _
    rw [drun_append (dstep D c) a b]; rfl
/-- the point's place alone may differ -/
def RF.like (σ τ : RF) : Prop := σ.mant = τ.mant ∧ σ.nd = τ.nd ∧ σ.ndM = τ.ndM ∧ σ.tr = τ.tr ∧ σ.dot = τ.dot
theorem like_step {σ τ : RF} (h : σ.like τ) (c : UInt8) (hc : dig c) : (σ.step c).like (τ.step c) ∧ (σ.step c).sd = true ∧ (τ.step c).sd = true := by
  obtain ⟨h1, h2, h3, h4, h5⟩ := h
  unfold RF.step
  rw [if_neg (dig_ne hc), if_neg (dig_ne hc), h2, h3]
  split
  · exact ⟨⟨h1, rfl, rfl, h4, h5⟩, rfl, rfl⟩
  · split
    · exact ⟨⟨by show σ.mant * 10 + _ = τ.mant * 10 + _; rw [h1], rfl, rfl, h4, h5⟩, rfl, rfl⟩
    · exact ⟨⟨h1, rfl, rfl, by show (σ.tr || _) = (τ.tr || _); rw [h4], h5⟩, rfl, rfl⟩
theorem like_run : ∀ (a : List UInt8) {σ τ : RF}, σ.like τ → (∀ c ∈ a, dig c) → (σ.run a).like (τ.run a) ∧ (a ≠ [] → (σ.run a).sd = true ∧ (τ.run a).sd = true)
  | [], σ, τ, h, _ => ⟨h, fun h => absurd rfl h⟩
  | c :: a, σ, τ, h, hd => by
    obtain ⟨h1, h2, h3⟩ := like_step h c (hd c (by simp))
    obtain ⟨h4, h5⟩ := like_run a h1 (fun x hx => hd x (by simp [hx]))
    refine ⟨h4, fun _ => ?_⟩
    show ((σ.step c).run a).sd = true ∧ ((τ.step c).run a).sd = true
    cases a with
    | nil => exact ⟨h2, h3⟩
    | cons x a => exact h5 (by simp)
theorem dot_step {σ τ : RF} (h : σ.like τ) (h2 : σ.sd = τ.sd) : σ.step 46 = τ.step 46 := by
  obtain ⟨h1, h2', h3, h4, h5⟩ := h
  have e : ((46 : UInt8).toNat = 46) := by decide
  unfold RF.step
  rw [if_pos e, if_pos e]
  obtain ⟨_, _, _, _, _, _, _⟩ := σ
  obtain ⟨_, _, _, _, _, _, _⟩ := τ
  simp only at *
  subst h1 h2' h3 h4 h2
  rfl
/-- a leading 0 turns nothing -/
theorem rf_zero (a b : List UInt8) (ha : ∀ c ∈ a, dig c) (hne : a ≠ []) : rf0.run (48 :: (a ++ 46 :: b)) = rf0.run (a ++ 46 :: b) := by
  have hz : rf0.like (rf0.step 48) := ⟨rfl, rfl, rfl, rfl, rfl⟩
  obtain ⟨h1, h2⟩ := like_run a hz ha
  obtain ⟨h3, h4⟩ := h2 hne
  show (rf0.step 48).run (a ++ 46 :: b) = _
  rw [run_append, run_append]
  show (((rf0.step 48).run a).step 46).run b = ((rf0.run a).step 46).run b
  rw [dot_step h1 (by rw [h3, h4])]
def dlike (D E : Dec) : Prop := D.d = E.d ∧ D.nd = E.nd ∧ D.tr = E.tr
theorem dlike_step {D E : Dec} (h : dlike D E) (c : UInt8) (hc : dig c) : dlike (dstep D c) (dstep E c) := by
  obtain ⟨h1, h2, h3⟩ := h
  unfold dstep
  rw [if_neg (dig_ne hc), if_neg (dig_ne hc), h2]
  split
  · exact ⟨h1, rfl, h3⟩
  · split
    · exact ⟨by show put D.d _ _ = put E.d _ _; rw [h1], rfl, h3⟩
    · exact ⟨h1, rfl, by show (D.tr || _) = (E.tr || _); rw [h3]⟩
theorem dlike_run : ∀ (a : List UInt8) {D E : Dec}, dlike D E → (∀ c ∈ a, dig c) → dlike (drun D a) (drun E a)
  | [], _, _, h, _ => h
  | c :: a, D, E, h, hd => dlike_run a (dlike_step h c (hd c (by simp))) (fun x hx => hd x (by simp [hx]))
theorem ddot_step {D E : Dec} (h : dlike D E) : dstep D 46 = dstep E 46 := by
  obtain ⟨h1, h2, h3⟩ := h
  have e : ((46 : UInt8).toNat = 46) := by decide
  unfold dstep
  rw [if_pos e, if_pos e]
  obtain ⟨_, _, _, _⟩ := D
  obtain ⟨_, _, _, _⟩ := E
  simp only at *
  subst h1 h2 h3
  rfl
theorem d_zero (a b : List UInt8) (ha : ∀ c ∈ a, dig c) : drun d00 (48 :: (a ++ 46 :: b)) = drun d00 (a ++ 46 :: b) := by
  have hz : dlike d00 (dstep d00 48) := ⟨rfl, rfl, rfl⟩
  have h1 := dlike_run a hz ha
  show drun (dstep d00 48) (a ++ 46 :: b) = _
  rw [drun_append, drun_append]
  show drun (dstep (drun (dstep d00 48) a) 46) b = drun (dstep (drun d00 a) 46) b
  rw [ddot_step h1]
end Go.Proofs.Qxb6608627aDoor
