import Derived.Test.Qxb6609149aFmtErr
import Derived.Test.Qxb6609149aFmtShelf
import Derived.Test.Qxb6609149aFmtPlain
import Derived.WalkKit
import Derived.WalkSpells
import Derived.WalkLawsBesides
import Derived.WalkMore
import Derived.Laws.NewBlocks
import Derived.Deep.LoopGhost
import Derived.Maps.RangeWalk
import Derived.Deep.QuietTactic
import Derived.BigQuiet
import Derived.Handy
import Derived.Laws.Concat
namespace Go.Proofs.Qxb6609149aFmt
open Go.RowKit Go.Extern.Stop Go.Stop Go.Extern

def SomeBool (e : Ending) : Prop := ∃ b : Bool, e = .returned (.bool b)
theorem retB {a b : Bool} (h : a = b) : Ending.returned (.bool a) = .returned (.bool b) := by rw [h]

set_option maxRecDepth 100000 in
set_option maxHeartbeats 1000000 in
theorem bytes4 (a b : ByteArray) (w : World) (ha : a.size ≤ maxLen) (hb : b.size ≤ maxLen) :
    Calls Tryf.prog 4 #[.string a, .string b] w fun e w' => SomeBool e ∧ w' = w := by
  unfold maxLen at ha hb
  go_enter Tryf.func4, Tryf.ntmps4
  by_cases h1 : (1048576 : Int) < (a.size : Int)
  · go_wp2; go_ret; exact ⟨⟨_, rfl⟩, rfl⟩
  by_cases h2 : (1048576 : Int) < (b.size : Int)
  · go_wp2; go_ret; exact ⟨⟨_, rfl⟩, rfl⟩
  by_cases h3 : (1048576 : Int) < (a.size : Int) + (b.size : Int)
  · go_wp2; go_ret; exact ⟨⟨_, rfl⟩, rfl⟩
  · go_wp2; go_ret; exact ⟨⟨_, rfl⟩, rfl⟩

set_option maxRecDepth 100000 in
set_option maxHeartbeats 2000000 in
theorem nn_walk (x : Nat) (w : World) (hx : x ≤ 1114111) :
    Calls Tryf.prog 10 #[.int .i32 (x : Int)] w fun e w' => e = .returned (.bool (nn x)) ∧ w' = w := by
  obtain ⟨B, hB⟩ : ∃ B, nn x = B := ⟨_, rfl⟩
  rw [hB]
  unfold nn at hB
  go_enter Tryf.func10, Tryf.ntmps10
  have hcl : (97 ≤ x ∧ x ≤ 122) ∨ (123 ≤ x) ∨ (65 ≤ x ∧ x ≤ 90) ∨ (91 ≤ x ∧ x ≤ 94) ∨ (95 ≤ x ∧ x ≤ 95) ∨ (96 ≤ x ∧ x ≤ 96) ∨ (48 ≤ x ∧ x ≤ 57) ∨ (58 ≤ x ∧ x ≤ 64) ∨ (0 ≤ x ∧ x ≤ 47) := by omega
  rcases hcl with ⟨hl, hh⟩ | hl | ⟨hl, hh⟩ | ⟨hl, hh⟩ | ⟨hl, hh⟩ | ⟨hl, hh⟩ | ⟨hl, hh⟩ | ⟨hl, hh⟩ | ⟨hl, hh⟩
  · have hv : B = false := by
      rw [← hB]; simp; omega
    have : (97 : Int) ≤ (x : Int) := by omega
    have : (x : Int) ≤ 122 := by omega
    subst hv
    clear hB
    go_wp2
    go_ret
    exact ⟨rfl, rfl⟩
  · have hv : B = true := by
      rw [← hB]; simp; omega
    have : (97 : Int) ≤ (x : Int) := by omega
    have hd122 : decide ((x : Int) ≤ 122) = false := decide_eq_false (by omega)
    have : ¬ (x : Int) ≤ 122 := by omega
    have : (65 : Int) ≤ (x : Int) := by omega
    have hd90 : decide ((x : Int) ≤ 90) = false := decide_eq_false (by omega)
    have : ¬ (x : Int) ≤ 90 := by omega
    have : (48 : Int) ≤ (x : Int) := by omega
    have hd57 : decide ((x : Int) ≤ 57) = false := decide_eq_false (by omega)
    have : ¬ (x : Int) ≤ 57 := by omega
    have h95 : ((x : Int) == 95) = false := by rw [beq_eq_false_iff_ne]; omega
    subst hv
    clear hB
    go_wp2
    go_ret
    exact ⟨rfl, rfl⟩
  · have hv : B = false := by
      rw [← hB]; simp; omega
    have hd97 : decide ((97 : Int) ≤ (x : Int)) = false := decide_eq_false (by omega)
    have : ¬ (97 : Int) ≤ (x : Int) := by omega
    have : (65 : Int) ≤ (x : Int) := by omega
    have : (x : Int) ≤ 90 := by omega
    subst hv
    clear hB
    go_wp2
    go_ret
    exact ⟨rfl, rfl⟩
  · have hv : B = true := by
      rw [← hB]; simp; omega
    have hd97 : decide ((97 : Int) ≤ (x : Int)) = false := decide_eq_false (by omega)
    have : ¬ (97 : Int) ≤ (x : Int) := by omega
    have : (65 : Int) ≤ (x : Int) := by omega
    have hd90 : decide ((x : Int) ≤ 90) = false := decide_eq_false (by omega)
    have : ¬ (x : Int) ≤ 90 := by omega
    have : (48 : Int) ≤ (x : Int) := by omega
    have hd57 : decide ((x : Int) ≤ 57) = false := decide_eq_false (by omega)
    have : ¬ (x : Int) ≤ 57 := by omega
    have h95 : ((x : Int) == 95) = false := by rw [beq_eq_false_iff_ne]; omega
    subst hv
    clear hB
    go_wp2
    go_ret
    exact ⟨rfl, rfl⟩
  · have hv : B = false := by
      rw [← hB]; simp; omega
    have hd97 : decide ((97 : Int) ≤ (x : Int)) = false := decide_eq_false (by omega)
    have : ¬ (97 : Int) ≤ (x : Int) := by omega
    have : (65 : Int) ≤ (x : Int) := by omega
    have hd90 : decide ((x : Int) ≤ 90) = false := decide_eq_false (by omega)
    have : ¬ (x : Int) ≤ 90 := by omega
    have : (48 : Int) ≤ (x : Int) := by omega
    have hd57 : decide ((x : Int) ≤ 57) = false := decide_eq_false (by omega)
    have : ¬ (x : Int) ≤ 57 := by omega
    have h95 : ((x : Int) == 95) = true := by rw [beq_iff_eq]; omega
    subst hv
    clear hB
    go_wp2
    go_ret
    exact ⟨rfl, rfl⟩
  · have hv : B = true := by
      rw [← hB]; simp; omega
    have hd97 : decide ((97 : Int) ≤ (x : Int)) = false := decide_eq_false (by omega)
    have : ¬ (97 : Int) ≤ (x : Int) := by omega
    have : (65 : Int) ≤ (x : Int) := by omega
    have hd90 : decide ((x : Int) ≤ 90) = false := decide_eq_false (by omega)
    have : ¬ (x : Int) ≤ 90 := by omega
    have : (48 : Int) ≤ (x : Int) := by omega
    have hd57 : decide ((x : Int) ≤ 57) = false := decide_eq_false (by omega)
    have : ¬ (x : Int) ≤ 57 := by omega
    have h95 : ((x : Int) == 95) = false := by rw [beq_eq_false_iff_ne]; omega
    subst hv
    clear hB
    go_wp2
    go_ret
    exact ⟨rfl, rfl⟩
  · have hv : B = false := by
      rw [← hB]; simp; omega
    have hd97 : decide ((97 : Int) ≤ (x : Int)) = false := decide_eq_false (by omega)
    have : ¬ (97 : Int) ≤ (x : Int) := by omega
    have hd65 : decide ((65 : Int) ≤ (x : Int)) = false := decide_eq_false (by omega)
    have : ¬ (65 : Int) ≤ (x : Int) := by omega
    have : (48 : Int) ≤ (x : Int) := by omega
    have : (x : Int) ≤ 57 := by omega
    subst hv
    clear hB
    go_wp2
    go_ret
    exact ⟨rfl, rfl⟩
  · have hv : B = true := by
      rw [← hB]; simp; omega
    have hd97 : decide ((97 : Int) ≤ (x : Int)) = false := decide_eq_false (by omega)
    have : ¬ (97 : Int) ≤ (x : Int) := by omega
    have hd65 : decide ((65 : Int) ≤ (x : Int)) = false := decide_eq_false (by omega)
    have : ¬ (65 : Int) ≤ (x : Int) := by omega
    have : (48 : Int) ≤ (x : Int) := by omega
    have hd57 : decide ((x : Int) ≤ 57) = false := decide_eq_false (by omega)
    have : ¬ (x : Int) ≤ 57 := by omega
    have h95 : ((x : Int) == 95) = false := by rw [beq_eq_false_iff_ne]; omega
    subst hv
    clear hB
    go_wp2
    go_ret
    exact ⟨rfl, rfl⟩
  · have hv : B = true := by
      rw [← hB]; simp; omega
    have hd97 : decide ((97 : Int) ≤ (x : Int)) = false := decide_eq_false (by omega)
    have : ¬ (97 : Int) ≤ (x : Int) := by omega
    have hd65 : decide ((65 : Int) ≤ (x : Int)) = false := decide_eq_false (by omega)
    have : ¬ (65 : Int) ≤ (x : Int) := by omega
    have hd48 : decide ((48 : Int) ≤ (x : Int)) = false := decide_eq_false (by omega)
    have : ¬ (48 : Int) ≤ (x : Int) := by omega
    have h95 : ((x : Int) == 95) = false := by rw [beq_eq_false_iff_ne]; omega
    subst hv
    clear hB
    go_wp2
    go_ret
    exact ⟨rfl, rfl⟩

theorem nn_pred (w : World) : PredGrows Tryf.prog 10 #[] nn w := fun W x hx _ => (nn_walk x W hx).mono fun _ _ ⟨he, hw⟩ => ⟨he, hw ▸ Below.refl _ _⟩
theorem idxFunc_c (s : ByteArray) (w : World) :
    Calls Tryf.prog 9 #[.string s, .func (.func 10) #[] #[]] w fun e w' => e = .returned (.int .i64 (Lib.idxFunc nn true s)) ∧ Below w.heap.size w w' :=
  Any.strings_IndexFunc_grows Tryf.laysG15 10 #[] (enters_of Tryf.func10 (by kernel_rfl) rfl) nn s w (nn_pred w)
theorem contains_c (b n c : Nat) (zs : List ByteArray) (x : ByteArray) (w : World) (hz : n ≤ zs.length) (hbig : n ≤ 9223372036854775807) (hc : ∀ j, j < zs.length → w.cell? ⟨b, 0 + j, none⟩ = some (.string (zs.getD j ByteArray.empty))) :
    Calls Tryf.prog 11 #[.slice (some ⟨b, 0, none⟩) n c, .string x] w fun e w' => e = .returned (.bool (Lib.containsS (zs.take n) x)) ∧ w' = w :=
  Any.slices_Contains_string Tryf.lays110 b 0 n c zs x w hz hbig hc
/-- internal/bytealg.MaxLen holds some int -/
def MaxL (w : World) : Prop := ∃ m, w.cell? ⟨Tryf.laysM146_ren.g 1, 0, none⟩ = some (.int .i64 m)
theorem cell_lt {w : World} {a : Addr} {v : Value} (h : w.cell? a = some v) : a.block < w.heap.size := by
  rcases Nat.lt_or_ge a.block w.heap.size with h' | h'
  · exact h'
  · simp [World.cell?, Array.getElem?_eq_none h'] at h
theorem MaxL.below {w w' : World} (h : MaxL w) (hb : Below w.heap.size w w') : MaxL w' := by
  obtain ⟨m, hm⟩ := h
  exact ⟨m, (hb.cell (cell_lt hm)).trans hm⟩
theorem split_c (s : ByteArray) (w : World) (hs : s.size < 4294967281) (hM : MaxL w) :
    Calls Tryf.prog 7 #[.string s, .string ⟨#[44]⟩] w fun e w' => e = .returned (.slice (some ⟨w.heap.size, 0, none⟩) (segs s).length (segs s).length) ∧ (∀ j, j < (segs s).length → w'.cell? ⟨w.heap.size, j, none⟩ = some (.string ((segs s).getD j ByteArray.empty))) ∧ Below w.heap.size w w' := by
  obtain ⟨m, hm⟩ := hM
  refine (Any.strings_Split (P := Tryf.prog) (ρ := Tryf.laysM146_ren) { Tryf.laysM146 with } Tryf.laysM146.i9 s ⟨#[44]⟩ m w hs hm (by decide)).mono fun e w' ⟨he, hw⟩ => ?_
  rw [segs_len, splitB_segs] at *
  subst hw
  refine ⟨he, fun j hj => ?_, (Below.refl _ w).alloc (Nat.le_refl _) _⟩
  simp [List.getD, hj]
end Go.Proofs.Qxb6609149aFmt
