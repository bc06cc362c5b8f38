import Derived.Test.Qxb6608627aDoorTb
namespace Go.Proofs.Qxb6608627aDoor
open Go.RowKit

theorem retF {a b : Nat} {x y : Bool} (h : a = b) (h2 : x = y) : Ending.returned (.tuple #[.int .u64 (a : Int), .bool x]) = .returned (.tuple #[.int .u64 (b : Int), .bool y]) := by rw [h, h2]
theorem bx1 : bits .and .u64 0 4503599627370495 = 0 := by decide
theorem bx2 : bits .and .i64 2047 2047 = 2047 := by decide
theorem bx3 : bits .or .u64 0 9218868437227405312 = 9218868437227405312 := by decide
theorem bx4 : bits .and .i64 0 2047 = 0 := by decide
theorem bx5 : bits .or .u64 0 0 = 0 := by decide
theorem wx1 : IntKind.u64.wrap 2047 = 2047 := by decide
theorem wx2 : IntKind.u64.wrap (2047 * 4503599627370496) = 9218868437227405312 := by decide
theorem wx3 : IntKind.u64.wrap 9218868437227405312 = 9218868437227405312 := by decide

set_option maxRecDepth 100000 in
set_option maxHeartbeats 8000000 in
theorem fb_big {B pb pbo lb lbo fb fbo : Nat} {fT hiT loT : Nat → Nat} (D : Dec) (hN : Norm D.d D.nd) (hbig : 310 < D.dp) (b : Nat) (w : World) (h : At w b D) (t : Tb B pb pbo lb lbo fb fbo fT hiT loT w) :
    Calls Tryd.prog 31 #[.pointer (some ⟨b, 0, none⟩), .pointer (some ⟨4, 0, none⟩)] w fun e w' => e = .returned (.tuple #[.int .u64 9218868437227405312, .bool true]) ∧ Kp b w w' := by
  have hc := DecAt.cnd h
  have hcp := DecAt.cdp h
  have hcg := DecAt.cneg h
  obtain ⟨nd, hnd⟩ : ∃ nd, D.nd = nd := ⟨_, rfl⟩
  obtain ⟨dp, hdp⟩ : ∃ dp, D.dp = dp := ⟨_, rfl⟩
  have hn1 := hN.pos
  rw [hnd] at hc hn1
  rw [hdp] at hcp hbig
  have hnz : ((nd : Int) == 0) = false := by rw [beq_eq_false_iff_ne]; omega
  have f0 := t.f0
  have f1 := t.f1
  have f2 := t.f2
  have b1 := bx1
  have b2 := bx2
  have b3 := bx3
  have b4 := bx4
  have b5 := bx5
  have x1 := wx1
  have x2 := wx2
  have x3 := wx3
  clear t h hN hdp hnd
  go_enter Tryd.func31, Tryd.ntmps31
  go_wp2_with fail
  refine wp_scope_fwd ?_
  go_wp2_with fail
  go_step3
  refine fwd_goto rfl ?_
  go_wp2_with fail
  go_quiet (fail)
  go_wp2_with fail
  go_step3
  go_wp2_with fail
  go_quiet (fail)
  go_wp2_with fail
  rw [Exit.noGoto_ret]
  go_ret2
  exact ⟨rfl, (Kp.refl b w).drewN _⟩

set_option maxRecDepth 100000 in
set_option maxHeartbeats 8000000 in
theorem fb_small {B pb pbo lb lbo fb fbo : Nat} {fT hiT loT : Nat → Nat} (D : Dec) (hN : Norm D.d D.nd) (hbig : D.dp < -330) (b : Nat) (w : World) (h : At w b D) (t : Tb B pb pbo lb lbo fb fbo fT hiT loT w) :
    Calls Tryd.prog 31 #[.pointer (some ⟨b, 0, none⟩), .pointer (some ⟨4, 0, none⟩)] w fun e w' => e = .returned (.tuple #[.int .u64 0, .bool false]) ∧ Kp b w w' := by
  have hc := DecAt.cnd h
  have hcp := DecAt.cdp h
  have hcg := DecAt.cneg h
  obtain ⟨nd, hnd⟩ : ∃ nd, D.nd = nd := ⟨_, rfl⟩
  obtain ⟨dp, hdp⟩ : ∃ dp, D.dp = dp := ⟨_, rfl⟩
  have hn1 := hN.pos
  rw [hnd] at hc hn1
  rw [hdp] at hcp hbig
  have hnz : ((nd : Int) == 0) = false := by rw [beq_eq_false_iff_ne]; omega
  have f0 := t.f0
  have f1 := t.f1
  have f2 := t.f2
  have b1 := bx1
  have b2 := bx2
  have b3 := bx3
  have b4 := bx4
  have b5 := bx5
  have x1 := wx1
  have x2 := wx2
  have x3 := wx3
  clear t h hN hdp hnd
  have hnb : decide ((310 : Int) < dp) = false := decide_eq_false (by omega)
  go_enter Tryd.func31, Tryd.ntmps31
  go_wp2_with fail
  refine wp_scope_fwd ?_
  go_wp2_with fail
  go_step3
  refine fwd_goto rfl ?_
  go_wp2_with fail
  go_quiet (fail)
  go_wp2_with fail
  rw [Exit.noGoto_ret]
  go_ret2
  exact ⟨rfl, (Kp.refl b w).drewN _⟩
end Go.Proofs.Qxb6608627aDoor
