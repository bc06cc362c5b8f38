import Derived.Test.Qxb6608627aDoorPre
namespace Go.Proofs.Qxb6608627aDoor

/-- the number that the first n digits write -/
def val (d : Nat → Nat) : Nat → Nat
  | 0 => 0
  | n + 1 => val d n * 10 + (d n - 48)
/-- a decimal in good order: 1 to 800 digits, the first no zero -/
structure Norm (d : Nat → Nat) (nd : Nat) : Prop where
  pos : 1 ≤ nd
  le : nd ≤ 800
  dig : ∀ i, i < nd → 48 ≤ d i ∧ d i ≤ 57
  lead : 49 ≤ d 0
theorem val_lt {d : Nat → Nat} : ∀ n, (∀ i, i < n → 48 ≤ d i ∧ d i ≤ 57) → val d n < 10 ^ n
  | 0, _ => by simp [val]
  | n + 1, h => by
    have h1 := val_lt n (fun i hi => h i (by omega))
    have h2 := h n (by omega)
    rw [val, Nat.pow_succ]
    omega
theorem val_ge {d : Nat → Nat} : ∀ n, (d 0 - 48) * 10 ^ n ≤ val d (n + 1)
  | 0 => by simp [val]
  | n + 1 => by
    have := val_ge (d := d) n
    rw [val, Nat.pow_succ]
    have e : (d 0 - 48) * (10 ^ n * 10) = (d 0 - 48) * 10 ^ n * 10 := by rw [Nat.mul_assoc]
    rw [e]
    omega
theorem val_div {d : Nat → Nat} {nd : Nat} (h : ∀ i, i < nd → 48 ≤ d i ∧ d i ≤ 57) : ∀ m, m ≤ nd → val d nd / 10 ^ m = val d (nd - m)
  | 0, _ => by simp
  | m + 1, hm => by
    have h1 := val_div h m (by omega)
    rw [Nat.pow_succ, ← Nat.div_div_eq_div_mul, h1]
    have h2 := h (nd - m - 1) (by omega)
    have e : nd - m = (nd - (m + 1)) + 1 := by omega
    rw [e, val, show nd - (m + 1) = nd - m - 1 by omega]
    omega
theorem val_dig {d : Nat → Nat} {nd : Nat} (h : ∀ i, i < nd → 48 ≤ d i ∧ d i ≤ 57) (m : Nat) (hm : m < nd) : val d nd / 10 ^ m % 10 = d (nd - 1 - m) - 48 := by
  rw [val_div h m (by omega), show nd - m = (nd - 1 - m) + 1 by omega, val]
  have h2 := h (nd - 1 - m) (by omega)
  omega

/-- what is carried behind m digits -/
def car (V k m : Nat) : Nat := (V % 10 ^ m) * 2 ^ k / 10 ^ m
theorem car_step (V k m : Nat) : car V k m + (V / 10 ^ m % 10) * 2 ^ k = (V % 10 ^ (m + 1)) * 2 ^ k / 10 ^ m := by
  unfold car
  have hp : 0 < 10 ^ m := Nat.pow_pos (by decide)
  rw [Nat.mod_pow_succ, Nat.add_mul, ← Nat.add_mul_div_right _ _ hp]
  congr 1
  rw [Nat.mul_right_comm, Nat.mul_comm (10 ^ m)]
theorem car_next (V k m : Nat) : (car V k m + (V / 10 ^ m % 10) * 2 ^ k) / 10 = car V k (m + 1) := by
  rw [car_step]
  unfold car
  rw [Nat.pow_succ, Nat.div_div_eq_div_mul]
theorem car_dig (V k m : Nat) : (car V k m + (V / 10 ^ m % 10) * 2 ^ k) % 10 = V * 2 ^ k / 10 ^ m % 10 := by
  rw [car_step]
  have hp : 0 < 10 ^ m := Nat.pow_pos (by decide)
  have e : V * 2 ^ k = (V % 10 ^ (m + 1)) * 2 ^ k + (V / 10 ^ (m + 1) * 2 ^ k * 10) * 10 ^ m := by
    have h1 := Nat.div_add_mod V (10 ^ (m + 1))
    have h2 : (10 ^ (m + 1) * (V / 10 ^ (m + 1)) + V % 10 ^ (m + 1)) * 2 ^ k = (V % 10 ^ (m + 1)) * 2 ^ k + (V / 10 ^ (m + 1) * 2 ^ k * 10) * 10 ^ m := by
      generalize V / 10 ^ (m + 1) = H
      rw [Nat.add_mul, Nat.add_comm, Nat.pow_succ]
      congr 1
      ac_rfl
    rw [h1] at h2
    exact h2
  rw [e, Nat.add_mul_div_right _ _ hp]
  omega
theorem car_lt (V k m : Nat) : car V k m < 2 ^ k := by
  unfold car
  have hp : 0 < 10 ^ m := Nat.pow_pos (by decide)
  rw [Nat.div_lt_iff_lt_mul hp, Nat.mul_comm (2 ^ k)]
  exact Nat.mul_lt_mul_of_pos_right (Nat.mod_lt _ hp) (Nat.pow_pos (by decide))
theorem car_all {V k nd : Nat} (h : V < 10 ^ nd) : car V k nd = V * 2 ^ k / 10 ^ nd := by
  unfold car
  rw [Nat.mod_eq_of_lt h]

/-- the number that a list of digits writes -/
def lval : List UInt8 → Nat
  | [] => 0
  | x :: l => (x.toNat - 48) * 10 ^ l.length + lval l
/-- the digits from i on, n of them -/
def tval (d : Nat → Nat) : Nat → Nat → Nat
  | _, 0 => 0
  | i, n + 1 => (d i - 48) * 10 ^ n + tval d (i + 1) n
theorem tval_val (d : Nat → Nat) : ∀ n i, val d (i + n) = val d i * 10 ^ n + tval d i n
  | 0, i => by simp [tval]
  | n + 1, i => by
    have := tval_val d n (i + 1)
    rw [show i + (n + 1) = i + 1 + n by omega, this, val, tval, Nat.pow_succ, Nat.add_mul]
    have e : val d i * 10 * 10 ^ n = val d i * (10 ^ n * 10) := by rw [Nat.mul_assoc, Nat.mul_comm 10]
    rw [e]
    omega
theorem tval_lt {d : Nat → Nat} : ∀ n i, (∀ j, i ≤ j → j < i + n → 48 ≤ d j ∧ d j ≤ 57) → tval d i n < 10 ^ n
  | 0, _, _ => by simp [tval]
  | n + 1, i, h => by
    have h1 := tval_lt n (i + 1) (fun j h1 h2 => h j (by omega) (by omega))
    have h2 := h i (Nat.le_refl _) (by omega)
    rw [tval, Nat.pow_succ]
    have h3 : (d i - 48) * 10 ^ n ≤ 9 * 10 ^ n := Nat.mul_le_mul_right _ (by omega)
    omega
theorem lval_lt : ∀ l : List UInt8, (∀ x ∈ l, 48 ≤ x.toNat ∧ x.toNat ≤ 57) → lval l < 10 ^ l.length
  | [], _ => by simp [lval]
  | x :: l, h => by
    have h1 := lval_lt l (fun y hy => h y (by simp [hy]))
    have h2 := h x (by simp)
    rw [lval, List.length_cons, Nat.pow_succ]
    have h3 : (x.toNat - 48) * 10 ^ l.length ≤ 9 * 10 ^ l.length := Nat.mul_le_mul_right _ (by omega)
    omega
/-- no suffix but the empty one writes 0 -/
def Pos : List UInt8 → Prop
  | [] => True
  | x :: l => 0 < lval (x :: l) ∧ Pos l
theorem plt_val {d : Nat → Nat} {nd : Nat} : ∀ (l : List UInt8) (i : Nat), i ≤ nd → (∀ j, j < nd → 48 ≤ d j ∧ d j ≤ 57) → (∀ x ∈ l, 48 ≤ x.toNat ∧ x.toNat ≤ 57) → Pos l →
    (plt d nd i l = true → tval d i (nd - i) * 10 ^ l.length < lval l * 10 ^ (nd - i)) ∧ (plt d nd i l = false → lval l * 10 ^ (nd - i) ≤ tval d i (nd - i) * 10 ^ l.length)
  | [], i, _, _, _, _ => by
    refine ⟨fun h => by simp [plt] at h, fun _ => by simp [lval]⟩
  | x :: l, i, hi, hd, hl, hp => by
    rw [plt]
    by_cases hn : nd ≤ i
    · rw [if_pos hn]
      have e : nd - i = 0 := by omega
      refine ⟨fun _ => ?_, fun h => by cases h⟩
      rw [e]
      simp only [tval, Nat.zero_mul, Nat.pow_zero, Nat.mul_one]
      exact hp.1
    · rw [if_neg hn]
      obtain ⟨n, hn'⟩ : ∃ n, nd - i = n + 1 := ⟨nd - i - 1, by omega⟩
      have hni : nd - (i + 1) = n := by omega
      have hdi := hd i (by omega)
      have hx := hl x (by simp)
      have ih := plt_val l (i + 1) (by omega) hd (fun y hy => hl y (by simp [hy])) hp.2
      rw [hni] at ih
      rw [hn', tval, lval, List.length_cons]
      have t1 := tval_lt (d := d) n (i + 1) (fun j _ h2 => hd j (by omega))
      have t2 := lval_lt l (fun y hy => hl y (by simp [hy]))
      generalize hA : tval d (i + 1) n = A at *
      generalize hC : lval l = C at *
      generalize hP : 10 ^ n = P at *
      generalize hQ : 10 ^ l.length = Q at *
      have hPp : 0 < P := by rw [← hP]; exact Nat.pow_pos (by decide)
      have hQp : 0 < Q := by rw [← hQ]; exact Nat.pow_pos (by decide)
      rw [Nat.pow_succ, Nat.pow_succ, hP, hQ]
      generalize hg : d i - 48 = g at *
      generalize hy : x.toNat - 48 = y at *
      have e1 : (g * P + A) * (Q * 10) = (g * P * Q + A * Q) * 10 := by rw [← Nat.mul_assoc, Nat.add_mul]
      have e2 : (y * Q + C) * (P * 10) = (y * P * Q + C * P) * 10 := by rw [← Nat.mul_assoc, Nat.add_mul, Nat.mul_right_comm y Q P]
      rw [e1, e2]
      by_cases he : d i = x.toNat
      · rw [if_pos he]
        have hgy : g = y := by omega
        rw [hgy]
        refine ⟨fun h => ?_, fun h => ?_⟩
        · have := ih.1 h
          omega
        · have := ih.2 h
          omega
      · rw [if_neg he]
        have h1 : A * Q < P * Q := Nat.mul_lt_mul_of_pos_right t1 hQp
        have h2 : C * P < P * Q := by rw [Nat.mul_comm P Q]; exact Nat.mul_lt_mul_of_pos_right t2 hPp
        refine ⟨fun h => ?_, fun h => ?_⟩
        · have hlt : d i < x.toNat := of_decide_eq_true h
          have h3 : (g + 1) * P * Q ≤ y * P * Q := Nat.mul_le_mul_right _ (Nat.mul_le_mul_right _ (by omega))
          rw [Nat.add_mul, Nat.add_mul, Nat.one_mul] at h3
          omega
        · have hlt : ¬ d i < x.toNat := of_decide_eq_false h
          have h3 : (y + 1) * P * Q ≤ g * P * Q := Nat.mul_le_mul_right _ (Nat.mul_le_mul_right _ (by omega))
          rw [Nat.add_mul, Nat.add_mul, Nat.one_mul] at h3
          omega

/-- a row of the table: 2^k has dt digits, the cut is 5^k -/
structure Cheat (k dt : Nat) (cut : List UInt8) : Prop where
  dig : ∀ x ∈ cut, 48 ≤ x.toNat ∧ x.toNat ≤ 57
  pos : Pos cut
  five : lval cut = 5 ^ k
  len : dt + cut.length = k + 1
  lo : 10 ^ (dt - 1) ≤ 2 ^ k
  hi : 2 ^ k < 10 ^ dt
  one : 1 ≤ dt
def dlt (d : Nat → Nat) (nd dt : Nat) (cut : List UInt8) : Nat := if plt d nd 0 cut = true then dt - 1 else dt
theorem shl_bounds {d : Nat → Nat} {nd k dt : Nat} {cut : List UInt8} (hN : Norm d nd) (hC : Cheat k dt cut) :
    val d nd * 2 ^ k < 10 ^ (nd + dlt d nd dt cut) ∧ 10 ^ (nd + dlt d nd dt cut - 1) ≤ val d nd * 2 ^ k := by
  have hv : val d nd = tval d 0 nd := by
    have := tval_val d nd 0
    simpa [val] using this
  have hp := plt_val (d := d) (nd := nd) cut 0 (Nat.zero_le _) hN.dig hC.dig hC.pos
  rw [Nat.sub_zero, ← hv, hC.five] at hp
  have hlt := val_lt nd hN.dig
  obtain ⟨n, hn⟩ : ∃ n, nd = n + 1 := ⟨nd - 1, by have := hN.pos; omega⟩
  have hge : 10 ^ (nd - 1) ≤ val d nd := by
    have h1 := val_ge (d := d) n
    have h2 : 1 * 10 ^ n ≤ (d 0 - 48) * 10 ^ n := Nat.mul_le_mul_right _ (by have := hN.lead; omega)
    rw [hn, Nat.add_sub_cancel]
    omega
  have h25 : 5 ^ k * 2 ^ k = 10 ^ k := by rw [← Nat.mul_pow]
  have hQ : 0 < 10 ^ cut.length := Nat.pow_pos (by decide)
  have h2k : 0 < 2 ^ k := Nat.pow_pos (by decide)
  generalize hV : val d nd = V at *
  unfold dlt
  have hlen := hC.len
  have hone := hC.one
  have hnd := hN.pos
  have ek : ∀ a, 10 ^ (nd + a) * 10 ^ cut.length = 10 ^ (nd + a + cut.length) := fun a => (Nat.pow_add 10 _ _).symm
  by_cases h : plt d nd 0 cut = true
  · rw [if_pos h]
    have h1 := hp.1 h
    refine ⟨?_, ?_⟩
    · have h3 : V * 10 ^ cut.length * 2 ^ k < 5 ^ k * 10 ^ nd * 2 ^ k := Nat.mul_lt_mul_of_pos_right h1 h2k
      have e3 : 5 ^ k * 10 ^ nd * 2 ^ k = 10 ^ (nd + (dt - 1) + cut.length) := by
        rw [Nat.mul_right_comm, h25, ← Nat.pow_add]
        congr 1
        omega
      rw [e3, ← ek, Nat.mul_right_comm] at h3
      exact Nat.lt_of_mul_lt_mul_right h3
    · have h3 : 10 ^ (nd - 1) * 10 ^ (dt - 1) ≤ V * 2 ^ k := Nat.mul_le_mul hge hC.lo
      rw [← Nat.pow_add] at h3
      rw [show nd + (dt - 1) - 1 = nd - 1 + (dt - 1) by omega]
      exact h3
  · rw [if_neg h]
    have h1 := hp.2 (by simpa using h)
    refine ⟨?_, ?_⟩
    · rw [Nat.pow_add]
      exact Nat.mul_lt_mul'' hlt hC.hi
    · have h3 : 5 ^ k * 10 ^ nd * 2 ^ k ≤ V * 10 ^ cut.length * 2 ^ k := Nat.mul_le_mul_right _ h1
      have e3 : 5 ^ k * 10 ^ nd * 2 ^ k = 10 ^ (nd + (dt - 1) + cut.length) := by
        rw [Nat.mul_right_comm, h25, ← Nat.pow_add]
        congr 1
        omega
      rw [e3, ← ek, Nat.mul_right_comm] at h3
      have h4 := Nat.le_of_mul_le_mul_right h3 hQ
      rw [show nd + dt - 1 = nd + (dt - 1) by omega]
      exact h4
end Go.Proofs.Qxb6608627aDoor
