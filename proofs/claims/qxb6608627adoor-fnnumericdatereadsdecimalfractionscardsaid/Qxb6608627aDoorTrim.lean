import Derived.Test.Qxb6608627aDoorBase
namespace Go.Proofs.Qxb6608627aDoor
open Go.RowKit

def trimN (d : Nat → Nat) : Nat → Nat
  | 0 => 0
  | n + 1 => if d n = 48 then trimN d n else n + 1
theorem trimN_le (d : Nat → Nat) : ∀ n, trimN d n ≤ n
  | 0 => Nat.le_refl _
  | n + 1 => by
    unfold trimN
    split
    · exact Nat.le_succ_of_le (trimN_le d n)
    · exact Nat.le_refl _

set_option maxRecDepth 100000 in
set_option maxHeartbeats 4000000 in
theorem trim_walk (b : Nat) (d : Nat → Nat) (nd : Nat) (dp : Int) (tr : Bool) (w : World) (h : DecAt w b d nd dp tr) (hnd : nd ≤ 800) (N : Nat) (hN : Hid (trimN d nd = N)) (P : Int) (hP : Hid (P = if N = 0 then 0 else dp)) :
    Calls Tryd.prog 63 #[.pointer (some ⟨b, 0, none⟩)] w fun e w' => e = .returned (.tuple #[]) ∧ DecAt w' b d N P tr ∧ Kp b w w' := by
  go_enter Tryd.func63, Tryd.ntmps63
  go_wp2_with fail
  go_loopg [] (nd + 1) (fun gf wr => ∃ m : Nat, m ≤ nd ∧ DecAt wr b d m dp tr ∧ Kp b w wr ∧ m < gf ∧ Hid (trimN d m = N))
  case atStart => exact ⟨nd, Nat.le_refl _, h, Kp.refl _ _, by omega, hN⟩
  case round =>
    obtain ⟨m, hm, hd, hk, hg, HT⟩ := hrel
    clear h
    have hc := hd.cnd
    have hcp := hd.cdp
    have hf := hd.fr 800
    have hfp := hd.fr 801
    cases m with
    | zero =>
      have hc : wr.cell? ⟨b, 800, none⟩ = some (.int .i64 0) := hd.cnd
      have HE : Hid (0 = N) := HT.out
      clear HT hN
      go_wp2_with fail
      go_quiet (fail)
      go_wp2
      go_end0
      refine ⟨rfl, ?_, (hk.drewN _).setCell rfl _⟩
      rw [hP.out, ← HE.out, if_pos rfl]
      exact (hd.drewN _).setDp 0
    | succ m =>
      have hw1 : IntKind.i64.wrap (((m + 1 : Nat) : Int) - 1) = (m : Int) := by rw [wrap_small _ (by omega) (by omega)]; omega
      have hpos : (0 : Int) < ((m + 1 : Nat) : Int) := by omega
      have hml : m < 800 := by omega
      have hmz : (m : Int) < 800 := by omega
      have hcd := hd.cd hml
      have hnz : (((m + 1 : Nat) : Int) == 0) = false := by rw [beq_eq_false_iff_ne]; omega
      by_cases h48 : d m = 48
      · have h48b : ((d m : Int) == 48) = true := by rw [beq_iff_eq]; omega
        have HT' : Hid (trimN d m = N) := by show _ = _; rw [← HT.out, trimN, if_pos h48]
        clear HT h48 hN
        go_wp2_with fail
        go_quiet (fail)
        go_wp2
        go_roundg (gk - 1)
        case measure => omega
        case rel => exact ⟨m, by omega, (hd.drewN _).toNd _ _ (by first | go_num | omega | rfl), (hk.drewN _).setCell rfl _, by omega, HT'⟩
      · have h48b : ((d m : Int) == 48) = false := by rw [beq_eq_false_iff_ne]; omega
        have HE : Hid (m + 1 = N) := by show _ = _; rw [← HT.out, trimN, if_neg h48]
        clear HT h48 hN
        go_wp2_with fail
        go_quiet (fail)
        go_wp2
        go_end0
        refine ⟨rfl, ?_, hk.drewN _⟩
        rw [hP.out, ← HE.out, if_neg (by omega)]
        exact hd.drewN _
end Go.Proofs.Qxb6608627aDoor
