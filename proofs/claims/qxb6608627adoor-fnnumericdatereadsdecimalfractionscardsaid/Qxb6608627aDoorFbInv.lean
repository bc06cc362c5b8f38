import Derived.Test.Qxb6608627aDoorBits
namespace Go.Proofs.Qxb6608627aDoor
open Go.RowKit

theorem At.drewN {W : World} {b : Nat} {D : Dec} (h : At W b D) (n : Nat) : At (W.drewN n) b D := h
theorem la_inv {n : Nat} {D D2 : Dec} {e e2 : Int} (h : LA n D e D2 e2) : (D.dp ≤ 0 ∧ D = D2 ∧ e = e2) ∨ ∃ m D', n = m + 1 ∧ 0 < D.dp ∧ Norm D.d D.nd ∧ RS (pw D.dp) D D' ∧ (D.dp - 19 ≤ D'.dp ∧ D'.dp ≤ D.dp) ∧ LA m D' (e + pw D.dp) D2 e2 := by
  cases n with
  | zero => exact Or.inl h
  | succ n =>
    obtain ⟨D', h⟩ := h
    exact Or.inr ⟨n, D', rfl, h⟩
theorem lb_inv {n : Nat} {D D2 : Dec} {e e2 : Int} (h : LB n D e D2 e2) : (¬ goB D ∧ D = D2 ∧ e = e2) ∨ ∃ m D', n = m + 1 ∧ goB D ∧ Norm D.d D.nd ∧ -400 ≤ D.dp ∧ LS (pw (-D.dp)) (dtT (pw (-D.dp))) (cutT (pw (-D.dp))).data.toList D D' ∧ (D.dp ≤ D'.dp ∧ D'.dp ≤ D.dp + 20) ∧ LB m D' (e - pw (-D.dp)) D2 e2 := by
  cases n with
  | zero => exact Or.inl h
  | succ n =>
    obtain ⟨D', h⟩ := h
    exact Or.inr ⟨n, D', rfl, h⟩
theorem pw_lt {x : Int} (h0 : 0 ≤ x) (h : ¬ 9 ≤ x) : ∃ i : Nat, i < 9 ∧ x = (i : Int) ∧ pw x = pwt i := by
  refine ⟨x.toNat, by omega, by omega, ?_⟩
  unfold pw
  rw [if_neg h]
theorem shl_call {B pb pbo lb lbo fb fbo : Nat} {fT hiT loT : Nat → Nat} {k : Nat} (h1 : 1 ≤ k) (h2 : k ≤ 60) {D D' : Dec} (hL : LS k (dtT k) (cutT k).data.toList D D') (hN : Norm D.d D.nd) (hdp : -1000000 ≤ D.dp ∧ D.dp ≤ 1000000) {b : Nat} (hb : B ≤ b) (W : World) (t : Tb B pb pbo lb lbo fb fbo fT hiT loT W) (h : At W b D) :
    Calls Tryd.prog 50 #[.pointer (some ⟨b, 0, none⟩), .int .i64 (k : Int)] W fun e w' => e = .returned (.tuple #[]) ∧ At w' b D' ∧ Kp b W w' :=
  shl_walk h2 h1 (cheats h1 h2).1 (cut_size h2) (cheats h1 h2).2 hL hN hdp b W h (t.ltab hb h2)

end Go.Proofs.Qxb6608627aDoor
