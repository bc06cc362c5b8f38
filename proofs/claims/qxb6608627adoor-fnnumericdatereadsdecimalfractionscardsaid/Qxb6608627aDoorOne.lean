import Derived.Test.Qxb6608627aDoorFl
namespace Go.Proofs.Qxb6608627aDoor
open Go.RowKit

theorem cut_zero (n : Nat) : Ieee.Toward.even.cut false n 0 = n := by
  unfold Ieee.Toward.cut
  simp [Nat.mod_one]
theorem cut_three (c : Nat) (h : 1 ≤ c) : Ieee.Toward.even.cut false (8 * c) 3 = c := by
  have hl : 3 ≤ (8 * c).log2 + 2 := by
    have : 3 ≤ (8 * c).log2 := (Nat.le_log2 (by omega)).2 (by omega)
    omega
  unfold Ieee.Toward.cut
  rw [Nat.min_eq_left hl]
  simp
theorem log_of {c k : Nat} (h1 : 2 ^ k ≤ c) (h2 : c < 2 ^ (k + 1)) : c.log2 = k := by
  have h0 : c ≠ 0 := by
    have : 0 < 2 ^ k := Nat.pow_pos (by decide)
    omega
  exact (Nat.log2_eq_iff h0).2 ⟨h1, h2⟩
/-- a whole number below 2^52, written -/
theorem near_up {m L c : Nat} (hm : m ≠ 0) (hL : m.log2 = L) (hL2 : L ≤ 52) (hc : m * 2 ^ (52 - L) = c) : Ieee.double.nearest false m 0 = min ((L + 1022) * 4503599627370496 + c) 9218868437227405312 := by
  have e1 : Ieee.double.leastPlace = -1074 := by decide
  have e2 : Ieee.double.binade = 4503599627370496 := by decide
  have e3 : Ieee.double.infRung = 9218868437227405312 := by decide
  have e4 : Ieee.double.fractionBits = 52 := rfl
  unfold Ieee.Format.nearest
  rw [if_neg hm]
  simp only [word_false, hL, e1, e2, e3, e4]
  have h1 : max (0 + (L : Int) - ((52 : Nat) : Int)) (-1074) = (L : Int) - 52 := by omega
  rw [h1]
  have h2 : (0 - ((L : Int) - 52)).toNat = 52 - L := by omega
  have h3 : ((L : Int) - 52 - 0).toNat = 0 := by omega
  have h4 : ((L : Int) - 52 - -1074).toNat = L + 1022 := by omega
  rw [h2, h3, h4, cut_zero, Nat.shiftLeft_eq, hc]
theorem near_down {c L : Nat} (h1 : 4503599627370496 ≤ c) (h2 : c < 9007199254740992) : Ieee.double.nearest false (8 * c) ((L : Int) - 55) = min ((L + 1022) * 4503599627370496 + c) 9218868437227405312 := by
  have e1 : Ieee.double.leastPlace = -1074 := by decide
  have e2 : Ieee.double.binade = 4503599627370496 := by decide
  have e3 : Ieee.double.infRung = 9218868437227405312 := by decide
  have e4 : Ieee.double.fractionBits = 52 := rfl
  have hl : (8 * c).log2 = 55 := log_of (by omega) (by omega)
  unfold Ieee.Format.nearest
  rw [if_neg (by omega)]
  simp only [word_false, hl, e1, e2, e3, e4]
  have g1 : max ((L : Int) - 55 + ((55 : Nat) : Int) - ((52 : Nat) : Int)) (-1074) = (L : Int) - 52 := by omega
  rw [g1]
  have g2 : ((L : Int) - 55 - ((L : Int) - 52)).toNat = 0 := by omega
  have g3 : ((L : Int) - 52 - ((L : Int) - 55)).toNat = 3 := by omega
  have g4 : ((L : Int) - 52 - -1074).toNat = L + 1022 := by omega
  rw [g2, g3, g4, Nat.shiftLeft_zero, cut_three c (by omega)]
set_option maxRecDepth 100000 in
theorem read_up {c L : Nat} (h1 : 4503599627370496 ≤ c) (h2 : c < 9007199254740992) (hL : L ≤ 60) : Ieee.double.read ((L + 1022) * 4503599627370496 + c) = .number false c ((L : Int) - 52) := by
  have hs : Ieee.double.signWeight = 9223372036854775808 := by decide
  have hi : Ieee.double.infRung = 9218868437227405312 := by decide
  have hb : Ieee.double.binade = 4503599627370496 := by decide
  have hl : Ieee.double.leastPlace = -1074 := by decide
  generalize hx : (L + 1022) * 4503599627370496 + c = x
  have hq : x / Ieee.double.signWeight = 0 := by rw [hs]; omega
  have hm : x % Ieee.double.signWeight = x := by rw [hs]; omega
  unfold Ieee.Format.read
  simp only [hq, hm, hi, hb, hl]
  have hn : ((0 : Nat) % 2 == 1) = false := by decide
  rw [hn, if_neg (by omega), if_pos (by omega)]
  have g1 : 4503599627370496 + x % 4503599627370496 = c := by omega
  have g2 : (-1074 : Int) + ((x / 4503599627370496 - 1 : Nat) : Int) = (L : Int) - 52 := by omega
  rw [g1, g2]
set_option maxRecDepth 100000 in
theorem quo_one (m : Nat) (hm : m < 1125899906842624) (h0 : m ≠ 0) : floatBits .quo .f64 (floatOfInt .f64 (m : Int)) (f10 0) = some (floatOfInt .f64 (m : Int)) := by
  obtain ⟨L, hL⟩ : ∃ L, m.log2 = L := ⟨_, rfl⟩
  have hb := (Nat.log2_eq_iff h0).1 hL
  have hL50 : L < 50 := by
    rcases Nat.lt_or_ge L 50 with h | h
    · exact h
    · have : 2 ^ 50 ≤ 2 ^ L := Nat.pow_le_pow_right (by decide) h
      have e : (2 : Nat) ^ 50 = 1125899906842624 := by decide
      omega
  obtain ⟨c, hc⟩ : ∃ c, m * 2 ^ (52 - L) = c := ⟨_, rfl⟩
  have hc1 : 4503599627370496 ≤ c := by
    rw [← hc, show (4503599627370496 : Nat) = 2 ^ L * 2 ^ (52 - L) by rw [← Nat.pow_add, show L + (52 - L) = 52 by omega]]
    exact Nat.mul_le_mul_right _ hb.1
  have hc2 : c < 9007199254740992 := by
    rw [← hc, show (9007199254740992 : Nat) = 2 ^ (L + 1) * 2 ^ (52 - L) by rw [← Nat.pow_add, show L + 1 + (52 - L) = 53 by omega]]
    exact Nat.mul_lt_mul_of_pos_right hb.2 (Nat.pow_pos (by decide))
  have hw : floatOfInt .f64 (m : Int) = (L + 1022) * 4503599627370496 + c := by
    rw [foi_eq, near_up h0 hL (by omega) hc, Nat.min_eq_left (by omega)]
  have hd : floatBits .quo .f64 (floatOfInt .f64 (m : Int)) (f10 0) = ((Ieee.double.read (floatOfInt .f64 (m : Int))).quotient 54 (Ieee.double.read (f10 0))).map Ieee.double.write := rfl
  have h1 : Ieee.double.read (f10 0) = .number false 4503599627370496 (-52) := by decide
  rw [hd, h1, hw, read_up hc1 hc2 (by omega)]
  have hlc : c.log2 = 52 := log_of hc1 hc2
  have hl5 : (4503599627370496 : Nat).log2 = 52 := by decide
  have hq : (Ieee.Datum.number false c ((L : Int) - 52)).quotient 54 (.number false 4503599627370496 (-52)) = some (.number false (8 * c) ((L : Int) - 55)) := by
    simp only [Ieee.Datum.quotient, if_neg (show ¬ (4503599627370496 : Nat) = 0 by decide), Bool.xor_false, hlc, hl5, Nat.shiftLeft_eq]
    have e54 : (2 : Nat) ^ (54 + 52 - 52) = 18014398509481984 := by decide
    rw [e54]
    have g1 : c * 18014398509481984 / 4503599627370496 = c * 4 := by omega
    have g2 : c * 18014398509481984 % 4503599627370496 = 0 := by omega
    rw [g1, g2]
    have g3 : ((L : Int) - 52 - -52 - ((54 + 52 - 52 : Nat) : Int) - 1) = (L : Int) - 55 := by omega
    rw [g3]
    have g4 : 2 * (c * 4) + ((0 : Nat) != 0).toNat = 8 * c := by
      show 2 * (c * 4) + 0 = _
      omega
    rw [g4]
  rw [hq]
  show some (Ieee.double.nearest false (8 * c) ((L : Int) - 55)) = _
  rw [near_down hc1 hc2, Nat.min_eq_left (by omega)]
end Go.Proofs.Qxb6608627aDoor
