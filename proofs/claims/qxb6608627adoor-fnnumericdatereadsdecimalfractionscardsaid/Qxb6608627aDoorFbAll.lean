import Derived.Test.Qxb6608627aDoorFbZn
import Derived.Test.Qxb6608627aDoorFbPn
import Derived.Test.Qxb6608627aDoorFbZa
import Derived.Test.Qxb6608627aDoorFbPa
namespace Go.Proofs.Qxb6608627aDoor
open Go.RowKit

theorem rint_lt (D : Dec) : rint D < 18446744073709551616 := by
  unfold rint
  split
  · decide
  · exact Nat.mod_lt _ (by decide)
/-- what floatBits answers, whatever the world -/
def FbDoes (D : Dec) (Z : Nat) (ov : Bool) : Prop := ∀ (B pb pbo lb lbo fb fbo : Nat) (fT hiT loT : Nat → Nat) (b : Nat) (w : World), At w b D → Tb B pb pbo lb lbo fb fbo fT hiT loT w → B ≤ b →
  Calls Tryd.prog 31 #[.pointer (some ⟨b, 0, none⟩), .pointer (some ⟨4, 0, none⟩)] w fun e w' => e = .returned (.tuple #[.int .u64 (Z : Int), .bool ov]) ∧ Kp b w w'
theorem fb_ex (D : Dec) (hN : Norm D.d D.nd) : ∃ (Z : Nat) (ov : Bool), Z ≤ ovB ∧ FbDoes D Z ov := by
  by_cases h1 : 310 < D.dp
  · exact ⟨9218868437227405312, true, Nat.le_refl _, fun B pb pbo lb lbo fb fbo fT hiT loT b w h t _ => fb_big D hN h1 b w h t⟩
  by_cases h2 : D.dp < -330
  · exact ⟨0, false, Nat.zero_le _, fun B pb pbo lb lbo fb fbo fT hiT loT b w h t _ => fb_small D hN h2 b w h t⟩
  obtain ⟨nA, D1, e1, hA, hN1, hp1, hp1', hnA, he1, he1'⟩ := la_ex 700 D 0 hN (by omega) (by omega) (by split <;> omega)
  have hl1 := hN1.dig 0 (by have := hN1.pos; omega)
  obtain ⟨nB, D2, e2, hB, hN2, hp2, hp2', hnB, he2, he2'⟩ := lb_ex (20 * 400 + 9) D1 e1 hN1 (by omega) hp1' (by omega)
  have hE : -300000 ≤ e2 ∧ e1 ≤ 60000 := by omega
  obtain ⟨hC, _⟩ := cheats (k := 53) (by decide) (by decide)
  have hdt : dtT 53 = 16 := by kernel_rfl
  by_cases h3 : e2 - 1 < -1022
  · obtain ⟨D3, hS, hN3, h5, h6⟩ := sr_ex (n := (-1022 - (e2 - 1)).toNat) (by omega) D2 hN2
    obtain ⟨D4, dl, hL, hN4, h7, _, h8, _⟩ := ls_ex hC D3 hN3
    rw [hdt] at h8
    refine ⟨resB (-1022) (rint D4), resO (-1022) (rint D4), resB_le _ _, fun B pb pbo lb lbo fb fbo fT hiT loT b w h t hb => ?_⟩
    by_cases hz : D2.dp = 0
    · exact fb_za D D1 D2 D3 D4 nA nB e1 e2 (-1022) (rint D4) hN (by omega) hA hB hE (by omega) ⟨h3, rfl, hS⟩ hz hN3 (by omega) hL hN4 (by omega) rfl (rint_lt D4) b w h t hb _ _ rfl rfl
    · exact fb_pa D D1 D2 D3 D4 nA nB e1 e2 (-1022) (rint D4) hN (by omega) hA hB hE (by omega) ⟨h3, rfl, hS⟩ hz hN3 (by omega) hL hN4 (by omega) rfl (rint_lt D4) b w h t hb _ _ rfl rfl
  · obtain ⟨D4, dl, hL, hN4, h7, _, h8, _⟩ := ls_ex hC D2 hN2
    rw [hdt] at h8
    refine ⟨resB (e2 - 1) (rint D4), resO (e2 - 1) (rint D4), resB_le _ _, fun B pb pbo lb lbo fb fbo fT hiT loT b w h t hb => ?_⟩
    by_cases hz : D2.dp = 0
    · exact fb_zn D D1 D2 D2 D4 nA nB e1 e2 (e2 - 1) (rint D4) hN (by omega) hA hB hE (by omega) ⟨h3, rfl, rfl⟩ hz hN2 (by omega) hL hN4 (by omega) rfl (rint_lt D4) b w h t hb _ _ rfl rfl
    · exact fb_pn D D1 D2 D2 D4 nA nB e1 e2 (e2 - 1) (rint D4) hN (by omega) hA hB hE (by omega) ⟨h3, rfl, rfl⟩ hz hN2 (by omega) hL hN4 (by omega) rfl (rint_lt D4) b w h t hb _ _ rfl rfl
end Go.Proofs.Qxb6608627aDoor
