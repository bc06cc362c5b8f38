import Derived.Test.Qxb6608627aDoorLeft
namespace Go.Proofs.Qxb6608627aDoor

/-- the digit at i, 0 behind the last -/
def dg (d : Nat → Nat) (nd i : Nat) : Nat := if i < nd then d i - 48 else 0
/-- the first i digits, zeros behind the last -/
def zv (d : Nat → Nat) (nd : Nat) : Nat → Nat
  | 0 => 0
  | i + 1 => zv d nd i * 10 + dg d nd i
/-- what is carried when j digits are put down -/
def nn (d : Nat → Nat) (nd R0 K : Nat) : Nat → Nat
  | 0 => zv d nd R0
  | j + 1 => nn d nd R0 K j % K * 10 + dg d nd (R0 + j)
def rd (d : Nat → Nat) (nd R0 K j : Nat) : Nat → Nat := fun p => if p < j ∧ p < 800 then 48 + nn d nd R0 K p / K else d p
def rtr (tr : Bool) (d : Nat → Nat) (nd R0 K : Nat) : Nat → Bool
  | 0 => tr
  | j + 1 => rtr tr d nd R0 K j || (decide (800 ≤ j) && decide (0 < nn d nd R0 K j / K))
theorem dg_in {d : Nat → Nat} {nd i : Nat} (h : i < nd) : dg d nd i = d i - 48 := if_pos h
theorem dg_out {d : Nat → Nat} {nd i : Nat} (h : ¬ i < nd) : dg d nd i = 0 := if_neg h
theorem dg_le {d : Nat → Nat} {nd : Nat} (hN : ∀ i, i < nd → 48 ≤ d i ∧ d i ≤ 57) (i : Nat) : dg d nd i ≤ 9 := by
  unfold dg
  split
  · rename_i h
    have := hN i h
    omega
  · omega
theorem zv_mono (d : Nat → Nat) (nd i : Nat) : zv d nd i ≤ zv d nd (i + 1) := by rw [zv]; omega
theorem zv_mono' (d : Nat → Nat) (nd i : Nat) : ∀ n, zv d nd i ≤ zv d nd (i + n)
  | 0 => Nat.le_refl _
  | n + 1 => Nat.le_trans (zv_mono' d nd i n) (zv_mono d nd (i + n))
theorem zv_far {d : Nat → Nat} {nd : Nat} : ∀ n, zv d nd nd * 10 ^ n = zv d nd (nd + n)
  | 0 => by simp
  | n + 1 => by
    rw [Nat.pow_succ, ← Nat.mul_assoc, zv_far n, ← Nat.add_assoc, zv, dg_out (by omega), Nat.add_zero]
theorem zv_pos {d : Nat → Nat} {nd : Nat} (hN : Norm d nd) : 1 ≤ zv d nd nd := by
  have h1 : zv d nd 1 = d 0 - 48 := by
    have := hN.pos
    rw [zv, zv, dg_in (by omega)]; omega
  have h2 := zv_mono' d nd 1 (nd - 1)
  rw [show 1 + (nd - 1) = nd by have := hN.pos; omega, h1] at h2
  have := hN.lead
  omega
/-- where the first digit of the quotient comes to stand -/
structure Fst (d : Nat → Nat) (nd K R0 : Nat) : Prop where
  ge : K ≤ zv d nd R0
  lt : ∀ r, r < R0 → zv d nd r < K
  pos : 1 ≤ R0
  le : R0 ≤ nd + 20
theorem fst_ex {d : Nat → Nat} {nd k : Nat} (hN : Norm d nd) (hk : k ≤ 60) : ∃ R0, Fst d nd (2 ^ k) R0 := by
  have h1 : 2 ^ k ≤ zv d nd (nd + 20) := by
    rw [← zv_far]
    have h2 : 2 ^ k ≤ 2 ^ 60 := Nat.pow_le_pow_right (by decide) hk
    have h3 : 1 * 10 ^ 20 ≤ zv d nd nd * 10 ^ 20 := Nat.mul_le_mul_right _ (zv_pos hN)
    have h4 : (2 : Nat) ^ 60 ≤ 1 * 10 ^ 20 := by decide
    omega
  obtain ⟨R0, h2, h3⟩ := exists_least (p := fun r => 2 ^ k ≤ zv d nd r) ⟨_, h1⟩
  refine ⟨R0, h2, fun r hr => ?_, ?_, h3 _ h1⟩
  · rcases Nat.lt_or_ge (zv d nd r) (2 ^ k) with h | h
    · exact h
    · have := h3 r h
      omega
  · rcases Nat.eq_zero_or_pos R0 with h | h
    · rw [h] at h2
      have h4 : 2 ^ k ≤ 0 := h2
      have : 0 < 2 ^ k := Nat.pow_pos (by decide)
      omega
    · exact h
theorem nn_lt {d : Nat → Nat} {nd K R0 : Nat} (hN : ∀ i, i < nd → 48 ≤ d i ∧ d i ≤ 57) (hF : Fst d nd K R0) (hK : 0 < K) : ∀ j, nn d nd R0 K j < 10 * K
  | 0 => by
    have h1 := hF.lt (R0 - 1) (by have := hF.pos; omega)
    have h2 := dg_le hN (R0 - 1)
    rw [nn, show R0 = (R0 - 1) + 1 by have := hF.pos; omega, zv]
    omega
  | j + 1 => by
    have h1 := Nat.mod_lt (nn d nd R0 K j) hK
    have h2 := dg_le hN (R0 + j)
    rw [nn]
    omega
theorem nn_dvd {d : Nat → Nat} {nd R0 k j0 : Nat} (hj : ∀ j, j0 ≤ j → ¬ R0 + j < nd) : ∀ i, i ≤ k → 2 ^ i ∣ nn d nd R0 (2 ^ k) (j0 + i)
  | 0, _ => by simp
  | i + 1, hi => by
    have h1 := nn_dvd (d := d) (k := k) hj i (by omega)
    rw [← Nat.add_assoc, nn, dg_out (hj _ (by omega)), Nat.add_zero]
    have h2 : 2 ^ i ∣ nn d nd R0 (2 ^ k) (j0 + i) % 2 ^ k := (Nat.dvd_mod_iff (Nat.pow_dvd_pow 2 (by omega))).2 h1
    obtain ⟨q, hq⟩ := h2
    rw [hq, Nat.pow_succ]
    exact ⟨q * 5, by rw [Nat.mul_assoc, Nat.mul_assoc, show q * 10 = 2 * (q * 5) by omega]; rfl⟩
/-- where the quotient ends -/
structure Lst (d : Nat → Nat) (nd K R0 J : Nat) : Prop where
  from_ : nd - R0 ≤ J
  zero : nn d nd R0 K J = 0
  ne : ∀ j, nd - R0 ≤ j → j < J → nn d nd R0 K j ≠ 0
  pos : 1 ≤ J
  le : J ≤ nd + 61
theorem lst_ex {d : Nat → Nat} {nd k R0 : Nat} (hF : Fst d nd (2 ^ k) R0) (hk : k ≤ 60) : ∃ J, Lst d nd (2 ^ k) R0 J := by
  have h1 := nn_dvd (d := d) (nd := nd) (R0 := R0) (k := k) (j0 := nd - R0) (fun j hj => by omega) k (Nat.le_refl _)
  have h2 : nn d nd R0 (2 ^ k) (nd - R0 + k + 1) = 0 := by
    rw [nn, dg_out (by omega), Nat.mod_eq_zero_of_dvd h1]
  obtain ⟨J, ⟨h3, h4⟩, h5⟩ := exists_least (p := fun j => nd - R0 ≤ j ∧ nn d nd R0 (2 ^ k) j = 0) ⟨_, by omega, h2⟩
  refine ⟨J, h3, h4, fun j hj hlt he => ?_, ?_, ?_⟩
  · have := h5 j ⟨hj, he⟩
    omega
  · rcases Nat.eq_zero_or_pos J with h | h
    · rw [h, nn] at h4
      have := hF.ge
      have : 0 < 2 ^ k := Nat.pow_pos (by decide)
      omega
    · exact h
  · have := h5 _ ⟨by omega, h2⟩
    omega
theorem rd_zero (d : Nat → Nat) (nd R0 K : Nat) : rd d nd R0 K 0 = d := by
  funext p
  unfold rd
  rw [if_neg (by omega)]
theorem rd_put {d : Nat → Nat} {nd R0 K j : Nat} (h : j < 800) : put (rd d nd R0 K j) j (48 + nn d nd R0 K j / K) = rd d nd R0 K (j + 1) := by
  funext p
  unfold put rd
  by_cases hp : p = j
  · subst hp
    rw [if_pos rfl, if_pos (by omega)]
  · rw [if_neg hp]
    by_cases h1 : p < j ∧ p < 800
    · rw [if_pos h1, if_pos (by omega)]
    · rw [if_neg h1, if_neg (by omega)]
theorem rd_far {d : Nat → Nat} {nd R0 K j : Nat} (h : ¬ j < 800) : rd d nd R0 K j = rd d nd R0 K (j + 1) := by
  funext p
  unfold rd
  by_cases h1 : p < j ∧ p < 800
  · rw [if_pos h1, if_pos (by omega)]
  · rw [if_neg h1, if_neg (by omega)]
theorem rd_high {d : Nat → Nat} {nd R0 K j p : Nat} (h : j ≤ p) : rd d nd R0 K j p = d p := by
  unfold rd
  rw [if_neg (by omega)]
theorem right_norm {d : Nat → Nat} {nd K R0 J : Nat} (hN : Norm d nd) (hF : Fst d nd K R0) (hL : Lst d nd K R0 J) (hK : 0 < K) : Norm (rd d nd R0 K J) (trimN (rd d nd R0 K J) (min J 800)) ∧ rd d nd R0 K J 0 = 48 + zv d nd R0 / K := by
  have h0 : rd d nd R0 K J 0 = 48 + zv d nd R0 / K := by
    unfold rd
    rw [if_pos (by have := hL.pos; omega), nn]
  have h1 : 1 ≤ zv d nd R0 / K := Nat.div_pos hF.ge hK
  have hle := trimN_le (rd d nd R0 K J) (min J 800)
  refine ⟨⟨trimN_pos (by omega) _ (by have := hL.pos; omega), by omega, fun i hi => ?_, by omega⟩, h0⟩
  have h2 := nn_lt hN.dig hF hK i
  have h3 : nn d nd R0 K i / K < 10 := by rw [Nat.div_lt_iff_lt_mul hK]; exact h2
  have h4 : nn d nd R0 K i / K ≤ 9 := Nat.le_of_lt_succ h3
  unfold rd
  rw [if_pos (by omega)]
  exact ⟨Nat.le_add_right _ _, Nat.add_le_add_left h4 48⟩
theorem left_norm {d : Nat → Nat} {T M : Nat} (hlo : 10 ^ (T - 1) ≤ M) (hhi : M < 10 ^ T) (hT : 1 ≤ T) : Norm (outd d T M T) (trimN (outd d T M T) (min T 800)) := by
  obtain ⟨h1, h2, h3⟩ := lead_out (d := d) hlo hhi hT
  have hle := trimN_le (outd d T M T) (min T 800)
  refine ⟨trimN_pos (by omega) _ (by omega), by omega, fun i hi => ?_, by omega⟩
  have h4 := Nat.mod_lt (M / 10 ^ (T - 1 - i)) (show 10 > 0 by decide)
  unfold outd
  rw [if_pos (by omega)]
  omega
end Go.Proofs.Qxb6608627aDoor
