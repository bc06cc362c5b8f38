import Derived.Test.Qxb6608627aDoorScope
import GoSem.PinnedTables
import Derived.KernelRfl
namespace Go.Proofs.Qxb6608627aDoor
open Go.RowKit

def dtT (k : Nat) : Nat := (Pinned.cheatRows.getD k (0, [])).1
def cutL (k : Nat) : List UInt8 := (Pinned.cheatRows.getD k (0, [])).2
def cutT (k : Nat) : ByteArray := ⟨(cutL k).toArray⟩
def posB : List UInt8 → Bool
  | [] => true
  | x :: l => decide (0 < lval (x :: l)) && posB l
theorem pos_of : ∀ l, posB l = true → Pos l
  | [], _ => trivial
  | x :: l, h => by
    rw [posB, Bool.and_eq_true] at h
    exact ⟨of_decide_eq_true h.1, pos_of l h.2⟩
def cheatB (k dt : Nat) (cut : List UInt8) : Bool :=
  cut.all (fun x => decide (48 ≤ x.toNat) && decide (x.toNat ≤ 57)) && (posB cut && (lval cut == 5 ^ k && (dt + cut.length == k + 1 && (decide (10 ^ (dt - 1) ≤ 2 ^ k) && (decide (2 ^ k < 10 ^ dt) && (decide (1 ≤ dt) && decide (dt ≤ 20)))))))
theorem cheat_of {k dt : Nat} {cut : List UInt8} (h : cheatB k dt cut = true) : Cheat k dt cut ∧ dt ≤ 20 := by
  unfold cheatB at h
  simp only [Bool.and_eq_true] at h
  obtain ⟨h1, h2, h3, h4, h5, h6, h7, h8⟩ := h
  refine ⟨⟨fun x hx => ?_, pos_of _ h2, by simpa using h3, by simpa using h4, of_decide_eq_true h5, of_decide_eq_true h6, of_decide_eq_true h7⟩, of_decide_eq_true h8⟩
  have := List.all_eq_true.1 h1 x hx
  simpa using this
theorem cheats_all : (List.range 61).all (fun k => k == 0 || cheatB k (dtT k) (cutL k)) = true := by kernel_rfl
theorem cheats {k : Nat} (h1 : 1 ≤ k) (h2 : k ≤ 60) : Cheat k (dtT k) (cutT k).data.toList ∧ dtT k ≤ 20 := by
  have := List.all_eq_true.1 cheats_all k (List.mem_range.2 (by omega))
  rw [Bool.or_eq_true] at this
  rcases this with h | h
  · exact absurd (by simpa using h) (show ¬ k = 0 by omega)
  · exact cheat_of h
theorem cut_sizes : (List.range 61).all (fun k => decide ((cutL k).length ≤ 1000)) = true := by kernel_rfl
theorem cut_size {k : Nat} (h2 : k ≤ 60) : (cutT k).size ≤ 1000 := by
  have := List.all_eq_true.1 cut_sizes k (List.mem_range.2 (by omega))
  rw [Lib.size_eq]
  exact of_decide_eq_true this

def pwt (i : Nat) : Nat := [1, 3, 6, 9, 13, 16, 19, 23, 26].getD i 0
/-- how far floatBits shifts at this place of the point -/
def pw (x : Int) : Nat := if 9 ≤ x then 27 else pwt x.toNat
theorem pw_cases {x : Int} (h : 0 ≤ x) : (x = 0 ∧ pw x = 1) ∨ (x = 1 ∧ pw x = 3) ∨ (2 ≤ x ∧ 6 ≤ pw x ∧ pw x ≤ 27) := by
  unfold pw
  by_cases h9 : 9 ≤ x
  · rw [if_pos h9]; omega
  · rw [if_neg h9]
    obtain ⟨n, rfl⟩ : ∃ n : Nat, x = n := ⟨x.toNat, by omega⟩
    rw [Int.toNat_natCast]
    have : n = 0 ∨ n = 1 ∨ n = 2 ∨ n = 3 ∨ n = 4 ∨ n = 5 ∨ n = 6 ∨ n = 7 ∨ n = 8 := by omega
    rcases this with rfl | rfl | rfl | rfl | rfl | rfl | rfl | rfl | rfl <;> simp [pwt]

/-- the first loop: n rounds from D, e to D', e' -/
def LA : Nat → Dec → Int → Dec → Int → Prop
  | 0, D, e, D2, e2 => D.dp ≤ 0 ∧ D = D2 ∧ e = e2
  | n + 1, D, e, D2, e2 => ∃ D' : Dec, 0 < D.dp ∧ Norm D.d D.nd ∧ RS (pw D.dp) D D' ∧ (D.dp - 19 ≤ D'.dp ∧ D'.dp ≤ D.dp) ∧ LA n D' (e + pw D.dp) D2 e2
theorem LA.stop (D : Dec) (e : Int) (h : D.dp ≤ 0) : LA 0 D e D e := ⟨h, rfl, rfl⟩
theorem LA.step {n : Nat} {D D' D2 : Dec} {e e2 : Int} (h1 : 0 < D.dp) (h2 : Norm D.d D.nd) (h3 : RS (pw D.dp) D D') (h4 : D.dp - 19 ≤ D'.dp ∧ D'.dp ≤ D.dp) (h5 : LA n D' (e + pw D.dp) D2 e2) : LA (n + 1) D e D2 e2 := ⟨D', h1, h2, h3, h4, h5⟩
theorem la_ex : ∀ (μ : Nat) (D : Dec) (e : Int), Norm D.d D.nd → D.dp ≤ 310 → -400 ≤ D.dp → (2 * D.dp.toNat + (if 56 ≤ D.d 0 then 1 else 0)) ≤ μ →
    ∃ n D2 e2, LA n D e D2 e2 ∧ Norm D2.d D2.nd ∧ D2.dp ≤ 0 ∧ -400 ≤ D2.dp ∧ n ≤ μ ∧ e ≤ e2 ∧ e2 ≤ e + 27 * n := by
  intro μ
  induction μ with
  | zero =>
    intro D e hN _ hlo hm
    have : D.dp ≤ 0 := by
      split at hm <;> omega
    exact ⟨0, D, e, .stop D e this, hN, this, hlo, Nat.le_refl _, Int.le_refl _, by simp⟩
  | succ μ ih =>
    intro D e hN hhi hlo hm
    by_cases hp : 0 < D.dp
    · have hpw := pw_cases (x := D.dp) (by omega)
      have hk : pw D.dp ≤ 27 := by omega
      obtain ⟨D', h1, h2, h3, h4, h5, h6⟩ := rs_ex (k := pw D.dp) (by omega) D hN
      have hl := hN.dig 0 (by have := hN.pos; omega)
      have hl' := h2.dig 0 (by have := h2.pos; omega)
      have hmm : (2 * D'.dp.toNat + (if 56 ≤ D'.d 0 then 1 else 0)) ≤ μ := by
        rcases hpw with ⟨h, _⟩ | ⟨h, hk3⟩ | ⟨h, hk6, _⟩
        · omega
        · rw [hk3] at h5 h6
          by_cases h8 : D.d 0 - 48 < 2 ^ 3
          · have := h5 h8
            split <;> omega
          · have h9 := h6 (by omega)
            have : ¬ 56 ≤ D'.d 0 := by
              rw [h9]
              have : (D.d 0 - 48) / 2 ^ 3 ≤ 1 := by
                have e8 : (2 : Nat) ^ 3 = 8 := by decide
                rw [e8]
                omega
              omega
            rw [if_neg this]
            rw [if_pos (by omega)] at hm
            omega
        · have h64 : 2 ^ 6 ≤ 2 ^ pw D.dp := Nat.pow_le_pow_right (by decide) hk6
          have e64 : (2 : Nat) ^ 6 = 64 := by decide
          have := h5 (by omega)
          split <;> omega
      obtain ⟨n, D2, e2, a1, a2, a3, a4, a5, a6, a7⟩ := ih D' (e + pw D.dp) h2 (by omega) (by omega) hmm
      exact ⟨n + 1, D2, e2, .step hp hN h1 ⟨h3, h4⟩ a1, a2, a3, a4, by omega, by omega, by push_cast; omega⟩
    · exact ⟨0, D, e, .stop D e (by omega), hN, by omega, hlo, Nat.zero_le _, Int.le_refl _, by simp⟩

theorem la_le : ∀ {n : Nat} {D D2 : Dec} {e e2 : Int}, LA n D e D2 e2 → e ≤ e2
  | 0, _, _, _, _, h => by
    obtain ⟨_, _, h⟩ := h
    omega
  | n + 1, _, _, _, _, h => by
    obtain ⟨D', _, _, _, _, h⟩ := h
    have := la_le h
    omega
/-- does the second loop go on? -/
def goB (D : Dec) : Prop := D.dp < 0 ∨ D.dp = 0 ∧ D.d 0 < 53
def LB : Nat → Dec → Int → Dec → Int → Prop
  | 0, D, e, D2, e2 => ¬ goB D ∧ D = D2 ∧ e = e2
  | n + 1, D, e, D2, e2 => ∃ D' : Dec, goB D ∧ Norm D.d D.nd ∧ -400 ≤ D.dp ∧ LS (pw (-D.dp)) (dtT (pw (-D.dp))) (cutT (pw (-D.dp))).data.toList D D' ∧ (D.dp ≤ D'.dp ∧ D'.dp ≤ D.dp + 20) ∧ LB n D' (e - pw (-D.dp)) D2 e2
theorem LB.stop (D : Dec) (e : Int) (h : ¬ goB D) : LB 0 D e D e := ⟨h, rfl, rfl⟩
theorem LB.step {n : Nat} {D D' D2 : Dec} {e e2 : Int} (h1 : goB D) (h2 : Norm D.d D.nd) (h3 : -400 ≤ D.dp) (h4 : LS (pw (-D.dp)) (dtT (pw (-D.dp))) (cutT (pw (-D.dp))).data.toList D D') (h5 : D.dp ≤ D'.dp ∧ D'.dp ≤ D.dp + 20) (h6 : LB n D' (e - pw (-D.dp)) D2 e2) : LB (n + 1) D e D2 e2 := ⟨D', h1, h2, h3, h4, h5, h6⟩
theorem lb_le : ∀ {n : Nat} {D D2 : Dec} {e e2 : Int}, LB n D e D2 e2 → e2 ≤ e
  | 0, _, _, _, _, h => by
    obtain ⟨_, _, h⟩ := h
    omega
  | n + 1, _, _, _, _, h => by
    obtain ⟨D', _, _, _, _, _, h⟩ := h
    have := lb_le h
    omega
theorem dts : dtT 1 = 1 ∧ dtT 3 = 1 ∧ (List.range 61).all (fun k => !decide (6 ≤ k) || decide (2 ≤ dtT k)) = true := ⟨by kernel_rfl, by kernel_rfl, by kernel_rfl⟩
theorem cut1 : cutL 1 = [53] := by kernel_rfl
theorem lb_ex : ∀ (μ : Nat) (D : Dec) (e : Int), Norm D.d D.nd → D.dp ≤ 30 → -400 ≤ D.dp → 20 * (-D.dp).toNat + (57 - D.d 0) ≤ μ →
    ∃ n D2 e2, LB n D e D2 e2 ∧ Norm D2.d D2.nd ∧ D2.dp ≤ 30 ∧ 0 ≤ D2.dp ∧ n ≤ μ + 1 ∧ e2 ≤ e ∧ e - 27 * n ≤ e2 := by
  intro μ
  induction μ with
  | zero =>
    intro D e hN hhi hlo hm
    have hl := hN.dig 0 (by have := hN.pos; omega)
    have : ¬ goB D := by unfold goB; omega
    exact ⟨0, D, e, .stop D e this, hN, hhi, by unfold goB at this; omega, by omega, Int.le_refl _, by simp⟩
  | succ μ ih =>
    intro D e hN hhi hlo hm
    by_cases hg : goB D
    · have hpw := pw_cases (x := -D.dp) (by unfold goB at hg; omega)
      have hl := hN.dig 0 (by have := hN.pos; omega)
      have hlead := hN.lead
      have hk1 : 1 ≤ pw (-D.dp) := by omega
      have hk27 : pw (-D.dp) ≤ 27 := by omega
      obtain ⟨hC, hdt⟩ := cheats hk1 (by omega)
      obtain ⟨D', dl, h1, h2, h3, h4, h5, h6, h7⟩ := ls_ex hC D hN
      have hl' := h2.dig 0 (by have := h2.pos; omega)
      have hmm : 20 * (-D'.dp).toNat + (57 - D'.d 0) ≤ μ := by
        rcases hpw with ⟨h, hk⟩ | ⟨h, hk⟩ | ⟨h, hk6, _⟩
        · have hd5 : D.d 0 < 53 := by unfold goB at hg; omega
          rw [hk] at h4 h5 h6 h7
          rw [dts.1] at h4 h5 h6
          have hdl : dl = 0 := h6 (by
            show plt D.d D.nd 0 (cutL 1) = true
            rw [cut1, plt, if_neg (by have := hN.pos; omega), if_neg (by show ¬ D.d 0 = 53; omega)]
            exact decide_eq_true (by show D.d 0 < 53; omega))
          have h8 := h7 hdl
          have e2 : (2 : Nat) ^ 1 = 2 := by decide
          rw [e2] at h8
          omega
        · rw [hk] at h4 h5 h7
          rw [dts.2.1] at h4 h5
          by_cases hdl : dl = 0
          · have h8 := h7 hdl
            have e8 : (2 : Nat) ^ 3 = 8 := by decide
            rw [e8] at h8
            omega
          · omega
        · have h9 := List.all_eq_true.1 dts.2.2 (pw (-D.dp)) (List.mem_range.2 (by omega))
          have h10 : 2 ≤ dtT (pw (-D.dp)) := by
            simp only [Bool.or_eq_true, Bool.not_eq_true', decide_eq_false_iff_not, decide_eq_true_eq] at h9
            omega
          omega
      obtain ⟨n, D2, e2, a1, a2, a3, a4, a5, a6, a7⟩ := ih D' (e - pw (-D.dp)) h2 (by unfold goB at hg; omega) (by omega) hmm
      exact ⟨n + 1, D2, e2, .step hg hN hlo h1 (by omega) a1, a2, a3, a4, by omega, by omega, by push_cast; omega⟩
    · exact ⟨0, D, e, .stop D e hg, hN, hhi, by unfold goB at hg; omega, by omega, Int.le_refl _, by simp⟩

def ovB : Nat := 9218868437227405312
def fin (m : Nat) (e : Int) : Nat := m % 4503599627370496 + (if m / 4503599627370496 % 2 = 0 then 0 else (e + 1023).toNat) * 4503599627370496
/-- the bits, and whether it overflows -/
def resB (e4 : Int) (M : Nat) : Nat := if 2047 ≤ e4 + 1023 then ovB else if M = 9007199254740992 then (if 2047 ≤ e4 + 1 + 1023 then ovB else fin 4503599627370496 (e4 + 1)) else fin M e4
def resO (e4 : Int) (M : Nat) : Bool := if 2047 ≤ e4 + 1023 then true else if M = 9007199254740992 then (if 2047 ≤ e4 + 1 + 1023 then true else false) else false
theorem fin_le {m : Nat} {e : Int} (h : e + 1023 < 2047) : fin m e ≤ ovB := by
  unfold fin ovB
  have := Nat.mod_lt m (show 4503599627370496 > 0 by decide)
  split <;> omega
theorem resB_le (e4 : Int) (M : Nat) : resB e4 M ≤ ovB := by
  unfold resB
  split
  · exact Nat.le_refl _
  · split
    · split
      · exact Nat.le_refl _
      · exact fin_le (by omega)
    · exact fin_le (by omega)
end Go.Proofs.Qxb6608627aDoor
