import Derived.Test.Qxb6608627aDoorRight
namespace Go.Proofs.Qxb6608627aDoor
open Go.RowKit

/-- D' is D divided by 2^k, as rightShift leaves it -/
def RS (k : Nat) (D D' : Dec) : Prop := ∃ R0 J, Fst D.d D.nd (2 ^ k) R0 ∧ Lst D.d D.nd (2 ^ k) R0 J ∧
  D' = ⟨rd D.d D.nd R0 (2 ^ k) J, trimN (rd D.d D.nd R0 (2 ^ k) J) (min J 800), D.dp - ((R0 : Int) - 1), rtr D.tr D.d D.nd R0 (2 ^ k) J⟩
/-- D' is D times 2^k, as leftShift leaves it -/
def LS (k dt : Nat) (cut : List UInt8) (D D' : Dec) : Prop := ∃ dl T M, dl = dlt D.d D.nd dt cut ∧ T = D.nd + dl ∧ M = val D.d D.nd * 2 ^ k ∧
  D' = ⟨outd D.d T M T, trimN (outd D.d T M T) (min T 800), D.dp + dl, trm D.tr T M T⟩
def At (W : World) (b : Nat) (D : Dec) : Prop := DecAt W b D.d D.nd D.dp D.tr

theorem zv_ten {d : Nat → Nat} {nd : Nat} (hN : Norm d nd) : ∀ i, 10 ^ i ≤ zv d nd (i + 1)
  | 0 => by
    have h1 := hN.pos
    have h2 := hN.lead
    rw [zv, zv, dg_in (by omega), Nat.pow_zero]
    omega
  | i + 1 => by
    have := zv_ten hN i
    rw [zv, Nat.pow_succ]
    omega
theorem rs_ex {k : Nat} (hk : k ≤ 60) (D : Dec) (hN : Norm D.d D.nd) : ∃ D', RS k D D' ∧ Norm D'.d D'.nd ∧ D.dp - 19 ≤ D'.dp ∧ D'.dp ≤ D.dp ∧
    (D.d 0 - 48 < 2 ^ k → D'.dp < D.dp) ∧ (2 ^ k ≤ D.d 0 - 48 → D'.d 0 = 48 + (D.d 0 - 48) / 2 ^ k) := by
  obtain ⟨R0, hF⟩ := fst_ex hN hk
  obtain ⟨J, hL⟩ := lst_ex hF hk
  have hK : 0 < 2 ^ k := Nat.pow_pos (by decide)
  obtain ⟨h1, h2⟩ := right_norm hN hF hL hK
  have hz1 : zv D.d D.nd 1 = D.d 0 - 48 := by
    have := hN.pos
    rw [zv, zv, dg_in (by omega)]; omega
  have hR : R0 ≤ 20 := by
    rcases Nat.lt_or_ge 20 R0 with h | h
    · have h3 := hF.lt 20 h
      have h4 : 10 ^ 19 ≤ zv D.d D.nd 20 := zv_ten hN 19
      have h5 : 2 ^ k ≤ 2 ^ 60 := Nat.pow_le_pow_right (by decide) hk
      have h6 : (2 : Nat) ^ 60 ≤ 10 ^ 19 := by decide
      omega
    · exact h
  refine ⟨_, ⟨R0, J, hF, hL, rfl⟩, h1, by show _ ≤ D.dp - _; omega, by show D.dp - _ ≤ _; have := hF.pos; omega, fun h => ?_, fun h => ?_⟩
  · show D.dp - _ < _
    have : R0 ≠ 1 := fun e => by
      have h3 := hF.ge
      rw [e, hz1] at h3
      omega
    have := hF.pos
    omega
  · show rd D.d D.nd R0 (2 ^ k) J 0 = _
    rw [h2]
    have : R0 = 1 := by
      rcases Nat.lt_or_ge 1 R0 with h3 | h3
      · have h4 := hF.lt 1 h3
        rw [hz1] at h4
        omega
      · have := hF.pos
        omega
    rw [this, hz1]
theorem rs_call {k : Nat} (hk : k ≤ 60) {D D' : Dec} (hR : RS k D D') (hN : Norm D.d D.nd) (hdp : -1000000 ≤ D.dp ∧ D.dp ≤ 1000000) (b : Nat) (w : World) (h : At w b D) :
    Calls Tryd.prog 56 #[.pointer (some ⟨b, 0, none⟩), .int .u64 (k : Int)] w fun e w' => e = .returned (.tuple #[]) ∧ At w' b D' ∧ Kp b w w' := by
  obtain ⟨R0, J, hF, hL, rfl⟩ := hR
  exact right_walk b k D.d D.nd D.dp D.tr w h hN hk (2 ^ k) R0 J rfl hF hL _ rfl hdp

theorem ls_ex {k dt : Nat} {cut : List UInt8} (hC : Cheat k dt cut) (D : Dec) (hN : Norm D.d D.nd) : ∃ D' dl, LS k dt cut D D' ∧ Norm D'.d D'.nd ∧ D'.dp = D.dp + (dl : Nat) ∧ dt - 1 ≤ dl ∧ dl ≤ dt ∧
    (plt D.d D.nd 0 cut = true → dl = dt - 1) ∧ (dl = 0 → 48 + (D.d 0 - 48) * 2 ^ k ≤ D'.d 0) := by
  obtain ⟨h1, h2⟩ := shl_bounds hN hC
  have hp := hN.pos
  have h3 := left_norm (d := D.d) h2 h1 (by omega)
  have hdl : dlt D.d D.nd dt cut = dt - 1 ∨ dlt D.d D.nd dt cut = dt := by unfold dlt; split <;> simp
  refine ⟨_, dlt D.d D.nd dt cut, ⟨_, _, _, rfl, rfl, rfl, rfl⟩, h3, rfl, by omega, by omega, fun h => ?_, fun h => ?_⟩
  · unfold dlt; rw [if_pos h]
  · obtain ⟨h4, h5, h6⟩ := lead_out (d := D.d) h2 h1 (by omega)
    show _ ≤ outd _ _ _ _ 0
    rw [h4, h, Nat.add_zero]
    refine Nat.add_le_add_left ?_ 48
    rw [Nat.le_div_iff_mul_le (Nat.pow_pos (by decide))]
    obtain ⟨n, hn⟩ : ∃ n, D.nd = n + 1 := ⟨D.nd - 1, by omega⟩
    have h7 := val_ge (d := D.d) n
    rw [hn, Nat.add_sub_cancel]
    have h8 := Nat.mul_le_mul_right (2 ^ k) h7
    rw [Nat.mul_right_comm] at h8
    exact h8
theorem ls_call {k dt : Nat} {cut : ByteArray} (hk : k ≤ 60) (hC : Cheat k dt cut.data.toList) (hcs : cut.size ≤ 1000) (hdt : dt ≤ 20) {D D' : Dec} (hL : LS k dt cut.data.toList D D') (hN : Norm D.d D.nd) (hdp : -1000000 ≤ D.dp ∧ D.dp ≤ 1000000) (b : Nat) (w : World) (h : At w b D) (hT : LTab w b k dt cut) :
    Calls Tryd.prog 55 #[.pointer (some ⟨b, 0, none⟩), .int .u64 (k : Int)] w fun e w' => e = .returned (.tuple #[]) ∧ At w' b D' ∧ Kp b w w' := by
  obtain ⟨dl, T, M, h1, h2, h3, rfl⟩ := hL
  exact left_walk b k dt cut D.d D.nd D.dp D.tr w h hN hT hk hC hcs dl T _ M h1 h2 rfl h3 _ rfl hdt hdp

set_option maxRecDepth 100000 in
set_option maxHeartbeats 4000000 in
/-- Shift(k), 0 < k ≤ 60 -/
theorem shl_walk {k dt : Nat} {cut : ByteArray} (hk : k ≤ 60) (hk1 : 1 ≤ k) (hC : Cheat k dt cut.data.toList) (hcs : cut.size ≤ 1000) (hdt : dt ≤ 20) {D D' : Dec} (hL : LS k dt cut.data.toList D D') (hN : Norm D.d D.nd) (hdp : -1000000 ≤ D.dp ∧ D.dp ≤ 1000000) (b : Nat) (w : World) (h : At w b D) (hT : LTab w b k dt cut) :
    Calls Tryd.prog 50 #[.pointer (some ⟨b, 0, none⟩), .int .i64 (k : Int)] w fun e w' => e = .returned (.tuple #[]) ∧ At w' b D' ∧ Kp b w w' := by
  have hcall := ls_call hk hC hcs hdt hL hN hdp b w h hT
  have hc := DecAt.cnd h
  obtain ⟨n, hn⟩ : ∃ n, D.nd = n := ⟨_, rfl⟩
  have hn1 := hN.pos
  rw [hn] at hc hn1
  have hnz : ((n : Int) == 0) = false := by rw [beq_eq_false_iff_ne]; omega
  have hkp : (0 : Int) < (k : Int) := by omega
  have hk60 : ¬ (60 : Int) < (k : Int) := by omega
  have hk60b : decide ((60 : Int) < (k : Int)) = false := decide_eq_false hk60
  have wk : IntKind.u64.wrap (k : Int) = (k : Int) := u64_id (by omega) (by omega)
  clear hL hN hdp h hT hC hn
  go_enter Tryd.func50, Tryd.ntmps50
  go_wp2_with fail
  go_loopg [1] 1 (fun gf v1 wr => v1 = .int .i64 (k : Int) ∧ Hid (wr = w))
  case atStart => exact ⟨rfl, rfl⟩
  case round =>
    obtain ⟨rfl, HW⟩ := hrel
    go_wp2_with fail
    go_at_call 55
    rw [HW.out]
    refine hcall.mono ?_
    rintro e w' ⟨rfl, hA, hK⟩
    go_wp2
    go_end0
    exact ⟨rfl, hA, hK⟩

theorem chain_ex : ∀ (t : Nat) (D : Dec), Norm D.d D.nd → ∃ seq : Nat → Dec, seq 0 = D ∧ (∀ i, i ≤ t → Norm (seq i).d (seq i).nd ∧ D.dp - 19 * (i : Int) ≤ (seq i).dp ∧ (seq i).dp ≤ D.dp) ∧ ∀ i, i < t → RS 60 (seq i) (seq (i + 1))
  | 0, D, hN => by
    refine ⟨fun _ => D, rfl, fun i hi => ?_, fun i hi => by omega⟩
    obtain rfl : i = 0 := by omega
    exact ⟨hN, by simp, Int.le_refl _⟩
  | t + 1, D, hN => by
    obtain ⟨D', h1, h2, h3, h4, _⟩ := rs_ex (Nat.le_refl 60) D hN
    obtain ⟨seq, e0, e1, e2⟩ := chain_ex t D' h2
    refine ⟨fun i => if i = 0 then D else seq (i - 1), rfl, fun i hi => ?_, fun i hi => ?_⟩
    · by_cases h0 : i = 0
      · subst h0
        exact ⟨hN, by simp, Int.le_refl _⟩
      · simp only [if_neg h0]
        obtain ⟨a1, a2, a3⟩ := e1 (i - 1) (by omega)
        exact ⟨a1, by omega, by omega⟩
    · by_cases h0 : i = 0
      · subst h0
        simp only [if_true, Nat.zero_add, if_neg (show ¬ 1 = 0 by omega), Nat.sub_self, e0]
        exact h1
      · simp only [if_neg h0, if_neg (show ¬ i + 1 = 0 by omega), Nat.add_sub_cancel]
        have := e2 (i - 1) (by omega)
        rw [show i - 1 + 1 = i by omega] at this
        exact this
/-- D' is D divided by 2^n, as Shift(-n) leaves it -/
def SR (n : Nat) (D D' : Dec) : Prop := ∃ seq : Nat → Dec, seq 0 = D ∧ (∀ i, i ≤ (n - 1) / 60 → Norm (seq i).d (seq i).nd ∧ D.dp - 19 * (i : Int) ≤ (seq i).dp ∧ (seq i).dp ≤ D.dp) ∧ (∀ i, i < (n - 1) / 60 → RS 60 (seq i) (seq (i + 1))) ∧ RS (n - 60 * ((n - 1) / 60)) (seq ((n - 1) / 60)) D'
theorem sr_of_rs {n : Nat} (h : n ≤ 60) {D D' : Dec} (hN : Norm D.d D.nd) (hR : RS n D D') : SR n D D' := by
  have e : (n - 1) / 60 = 0 := by omega
  refine ⟨fun _ => D, rfl, fun i hi => ?_, fun i hi => by omega, by rw [e]; exact hR⟩
  obtain rfl : i = 0 := by omega
  exact ⟨hN, by simp, Int.le_refl _⟩
theorem sr_ex {n : Nat} (hn : 1 ≤ n) (D : Dec) (hN : Norm D.d D.nd) : ∃ D', SR n D D' ∧ Norm D'.d D'.nd ∧ D.dp - 19 * ((((n - 1) / 60 : Nat) : Int) + 1) ≤ D'.dp ∧ D'.dp ≤ D.dp := by
  obtain ⟨seq, e0, e1, e2⟩ := chain_ex ((n - 1) / 60) D hN
  obtain ⟨a1, a2, a3⟩ := e1 _ (Nat.le_refl _)
  obtain ⟨D', h1, h2, h3, h4, _⟩ := rs_ex (k := n - 60 * ((n - 1) / 60)) (by omega) _ a1
  exact ⟨D', ⟨seq, e0, e1, e2, h1⟩, h2, by omega, by omega⟩

set_option maxRecDepth 100000 in
set_option maxHeartbeats 4000000 in
/-- Shift(-n), 1 ≤ n -/
theorem shr_walk {n : Nat} (hn : 1 ≤ n) (hnb : n ≤ 400000) {D D' : Dec} (hS : SR n D D') (hdp : -100000 ≤ D.dp ∧ D.dp ≤ 100000) (b : Nat) (w : World) (h : At w b D) :
    Calls Tryd.prog 50 #[.pointer (some ⟨b, 0, none⟩), .int .i64 (-(n : Int))] w fun e w' => e = .returned (.tuple #[]) ∧ At w' b D' ∧ Kp b w w' := by
  obtain ⟨seq, e0, e1, e2, e3⟩ := hS
  obtain ⟨t, ht⟩ : ∃ t, (n - 1) / 60 = t := ⟨_, rfl⟩
  rw [ht] at e1 e2 e3
  have H0 : Hid (At w b (seq 0)) := by rw [e0]; exact h
  have hbd : ∀ i, i ≤ t → -1000000 ≤ (seq i).dp ∧ (seq i).dp ≤ 1000000 := fun i hi => by
    have := e1 i hi
    omega
  have HC : Hid (∀ i, i < t → ∀ W, At W b (seq i) → Calls Tryd.prog 56 #[.pointer (some ⟨b, 0, none⟩), .int .u64 60] W fun e w' => e = .returned (.tuple #[]) ∧ At w' b (seq (i + 1)) ∧ Kp b W w') :=
    fun i hi W hA => rs_call (Nat.le_refl 60) (e2 i hi) (e1 i (by omega)).1 (hbd i (by omega)) b W hA
  obtain ⟨m, hm⟩ : ∃ m, n - 60 * t = m := ⟨_, rfl⟩
  rw [hm] at e3
  have HL : Hid (∀ W, At W b (seq t) → Calls Tryd.prog 56 #[.pointer (some ⟨b, 0, none⟩), .int .u64 (m : Int)] W fun e w' => e = .returned (.tuple #[]) ∧ At w' b D' ∧ Kp b W w') :=
    fun W hA => rs_call (by omega) e3 (e1 t (Nat.le_refl _)).1 (hbd t (Nat.le_refl _)) b W hA
  have HP : Hid (∀ i, i ≤ t → ∀ W, At W b (seq i) → ∃ y : Nat, 1 ≤ y ∧ W.cell? ⟨b, 800, none⟩ = some (.int .i64 (y : Int))) := fun i hi W hA => ⟨(seq i).nd, (e1 i hi).1.pos, DecAt.cnd hA⟩
  obtain ⟨y, hy1, hc⟩ := HP.out 0 (Nat.zero_le _) w H0.out
  have hyz : ((y : Int) == 0) = false := by rw [beq_eq_false_iff_ne]; omega
  have hnn : ¬ (0 : Int) < -(n : Int) := by omega
  have hnnb : decide ((0 : Int) < -(n : Int)) = false := decide_eq_false hnn
  have hng : -(n : Int) < 0 := by omega
  have HT : Hid (t = (n - 1) / 60 ∧ m = n - 60 * t) := ⟨ht.symm, hm.symm⟩
  clear e0 e1 e2 e3 h hbd ht hm hdp HP
  go_enter Tryd.func50, Tryd.ntmps50
  go_wp2_with fail
  go_loopg [1] (t + 1) (fun gf v1 wr => ∃ (i : Nat) (z : Int), v1 = .int .i64 z ∧ Hid (z = 60 * (i : Int) - (n : Int)) ∧ i ≤ t ∧ At wr b (seq i) ∧ Kp b w wr ∧ t < gf + i)
  case atStart => exact ⟨0, _, rfl, (by show _ = _; simp), Nat.zero_le _, H0.out, Kp.refl _ _, by omega⟩
  case round =>
    clear hc H0
    obtain ⟨i, z, rfl, HZ, hi, hA, hK, hg⟩ := hrel
    by_cases hit : i < t
    · have hz : z < -60 := by have := HZ.out; have := HT.out.1; omega
      have hcall := HC.out i hit wr hA
      have hz2 : -1000000 ≤ z := by have := HZ.out; omega
      go_wp2_with fail
      go_at_call 56
      refine hcall.mono ?_
      rintro e w' ⟨rfl, hA', hK'⟩
      go_wp2_with fail
      go_roundg (gk - 1)
      case measure => omega
      case rel => exact ⟨i + 1, z + 60, by go_num, (by have := HZ.out; show _ = _; push_cast; omega), by omega, hA', hK.trans hK', by omega⟩
    · have hit' : i = t := by omega
      have hz : ¬ z < -60 := by have := HZ.out; have := HT.out.1; omega
      have hzb : decide (z < -60) = false := decide_eq_false hz
      have hzm : -z = (m : Int) := by have := HZ.out; have := HT.out; omega
      have wm : IntKind.u64.wrap (m : Int) = (m : Int) := u64_id (by omega) (by have := HT.out; omega)
      have wi : IntKind.i64.wrap (m : Int) = (m : Int) := wrap_small _ (by omega) (by have := HT.out; omega)
      have hcall := HL.out wr (by rw [← hit']; exact hA)
      go_wp2_with fail
      go_at_call 56
      refine hcall.mono ?_
      rintro e w' ⟨rfl, hA', hK'⟩
      go_wp2
      go_end0
      exact ⟨rfl, hA', hK.trans hK'⟩
end Go.Proofs.Qxb6608627aDoor
