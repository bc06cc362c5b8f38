import Derived.Test.Qxb6608627aDoorExact
import Derived.Test.Qxb6608627aDoorFbPlain
namespace Go.Proofs.Qxb6608627aDoor
open Go.RowKit

/-- no NaN: the word at or below +infinity -/
theorem read_fin {x : Nat} (h : x ≤ ovB) : (∃ m i, Ieee.double.read x = .number false m i) ∨ Ieee.double.read x = .infinity false := by
  have hs : Ieee.double.signWeight = 9223372036854775808 := by decide
  have hi : Ieee.double.infRung = 9218868437227405312 := by decide
  unfold ovB at h
  have hq : x / Ieee.double.signWeight = 0 := by rw [hs]; omega
  have hm : x % Ieee.double.signWeight = x := by rw [hs]; omega
  unfold Ieee.Format.read
  simp only [hq, hm, hi]
  have hn : ((0 : Nat) % 2 == 1) = false := by decide
  rw [hn]
  split
  · exact Or.inl ⟨_, _, rfl⟩
  · split
    · exact Or.inl ⟨_, _, rfl⟩
    · split
      · exact Or.inr rfl
      · exfalso; omega
theorem order_self {d : Ieee.Datum} (h : (∃ m i, d = .number false m i) ∨ d = .infinity false) : d.order d = some .eq := by
  rcases h with ⟨m, i, rfl⟩ | rfl
  · unfold Ieee.Datum.order
    simp only [Option.some.injEq]
    exact Std.ReflCmp.compare_self
  · rfl
theorem feq_self {x : Nat} (h : x ≤ ovB) : Op.floatEq .f64 x x = true := by
  unfold Op.floatEq
  have : FloatKind.f64.format.order x x = some .eq := order_self (read_fin h)
  rw [this]; rfl
theorem word_false (r : Nat) : Ieee.double.word false r = r := by
  unfold Ieee.Format.word
  exact if_neg Bool.false_ne_true
theorem inf_le : Ieee.double.infRung ≤ ovB := by decide
theorem near_le (m : Nat) (i : Int) : Ieee.double.nearest false m i ≤ ovB := by
  unfold Ieee.Format.nearest
  by_cases h : m = 0
  · rw [if_pos h, word_false]
    exact Nat.zero_le _
  · rw [if_neg h]
    simp only [word_false]
    exact Nat.le_trans (Nat.min_le_right _ _) inf_le
theorem foi_eq (m : Nat) : floatOfInt .f64 (m : Int) = Ieee.double.nearest false m 0 := by
  show Ieee.double.write (.number (decide ((m : Int) < 0)) (m : Int).natAbs 0) = _
  rw [decide_eq_false (by omega), Int.natAbs_natCast]
  rfl
theorem foi_le (m : Nat) : floatOfInt .f64 (m : Int) ≤ ovB := by rw [foi_eq]; exact near_le m 0
theorem write_le (m : Nat) (i : Int) : Ieee.double.write (.number false m i) ≤ ovB := near_le m i
theorem quo_num (m n : Nat) (i j : Int) (k : Nat) (hn : n ≠ 0) : ∃ a b, (Ieee.Datum.number false m i).quotient k (.number false n j) = some (.number false a b) := by
  refine ⟨2 * ((m <<< (k + n.log2 - m.log2)) / n) + ((m <<< (k + n.log2 - m.log2)) % n != 0).toNat, i - j - (k + n.log2 - m.log2 : Nat) - 1, ?_⟩
  simp only [Ieee.Datum.quotient, if_neg hn, Bool.xor_false]
theorem quo_ex {x F : Nat} (hx : x ≤ ovB) {n : Nat} {j : Int} (hF : Ieee.double.read F = .number false n j) (hn : n ≠ 0) : ∃ R, R ≤ ovB ∧ floatBits .quo .f64 x F = some R := by
  have hd : floatBits .quo .f64 x F = ((Ieee.double.read x).quotient (Ieee.double.fractionBits + 2) (Ieee.double.read F)).map Ieee.double.write := rfl
  rw [hd, hF]
  rcases read_fin hx with ⟨m, i, h⟩ | h
  · obtain ⟨a, b, hab⟩ := quo_num m n i j (Ieee.double.fractionBits + 2) hn
    rw [h, hab]
    exact ⟨Ieee.double.write (.number false a b), write_le a b, rfl⟩
  · rw [h]
    have hi : Ieee.double.write (.infinity false) = 9218868437227405312 := by decide
    have hq : (Ieee.Datum.infinity false).quotient (Ieee.double.fractionBits + 2) (.number false n j) = some (.infinity false) := by simp only [Ieee.Datum.quotient, Bool.xor_false]
    rw [hq]
    exact ⟨Ieee.double.write (.infinity false), by rw [hi]; exact Nat.le_refl _, rfl⟩
/-- float64pow10's bits -/
def f10 (i : Nat) : Nat := [4607182418800017408, 4621819117588971520, 4636737291354636288, 4652007308841189376, 4666723172467343360, 4681608360884174848, 4696837146684686336, 4711630319722168320, 4726483295884279808, 4741671816366391296, 4756540486875873280, 4771362005757984768, 4786511204640096256, 4801453603149578240, 4816244402031689728, 4831355200913801216, 4846369599423283200, 4861130398305394688, 4876203697187506176, 4891288408196988160, 4906019910204099648, 4921056587992461136, 4936209963552724370].getD i 0
def isNum (d : Ieee.Datum) : Bool := match d with
  | .number false n _ => !decide (n = 0)
  | _ => false
theorem isNum_ex {d : Ieee.Datum} (h : isNum d = true) : ∃ n j, d = .number false n j ∧ n ≠ 0 := by
  unfold isNum at h
  split at h
  · rename_i n j
    exact ⟨n, j, rfl, by simpa using h⟩
  · cases h
theorem f10_nums : (List.range 23).all (fun k => isNum (Ieee.double.read (f10 k))) = true := by kernel_rfl
theorem f10_num {k : Nat} (h : k < 23) : ∃ n j, Ieee.double.read (f10 k) = .number false n j ∧ n ≠ 0 := isNum_ex (List.all_eq_true.1 f10_nums k (List.mem_range.2 h))
theorem f10_ints : (List.range 16).all (fun k => Ieee.double.nearest false (10 ^ k) 0 == f10 k) = true := by kernel_rfl
theorem f10_int {k : Nat} (h : k < 16) : floatOfInt .f64 ((10 ^ k : Nat) : Int) = f10 k := by
  rw [foi_eq]
  have := List.all_eq_true.1 f10_ints k (List.mem_range.2 h)
  simpa using this
end Go.Proofs.Qxb6608627aDoor
