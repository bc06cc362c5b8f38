import Derived.Test.Qxb6608627aDoorLeftPlain
namespace Go.Proofs.Qxb6608627aDoor
open Go.RowKit

/-- the row k of the table of left shifts -/
structure LTab (w : World) (b k dt : Nat) (cut : ByteArray) : Prop where
  ex : ∃ lb lbo : Nat, w.cell? ⟨9, 0, none⟩ = some (.slice (some ⟨lb, lbo, none⟩) 61 61) ∧ w.cell? ⟨lb, lbo + k * 2, none⟩ = some (.int .i64 (dt : Int)) ∧ w.cell? ⟨lb, lbo + k * 2 + 1, none⟩ = some (.string cut) ∧ lb ≠ b ∧ 9 ≠ b

/-- the digits when m of them are written, from the right -/
def outd (d : Nat → Nat) (T M m : Nat) : Nat → Nat := fun p => if T - m ≤ p ∧ p < T ∧ p < 800 then 48 + M / 10 ^ (T - 1 - p) % 10 else d p
def trm (tr : Bool) (T M : Nat) : Nat → Bool
  | 0 => tr
  | m + 1 => trm tr T M m || (decide (800 ≤ T - 1 - m) && !decide (M / 10 ^ m % 10 = 0))
theorem outd_zero (d : Nat → Nat) (T M : Nat) : outd d T M 0 = d := by
  funext p
  unfold outd
  rw [if_neg (by omega)]
theorem outd_low {d : Nat → Nat} {T M m p : Nat} (h : p < T - m) : outd d T M m p = d p := by
  unfold outd
  rw [if_neg (by omega)]
theorem outd_put {d : Nat → Nat} {T M m : Nat} (hm : m < T) (h8 : T - 1 - m < 800) : put (outd d T M m) (T - 1 - m) (48 + M / 10 ^ m % 10) = outd d T M (m + 1) := by
  funext p
  unfold put outd
  by_cases hp : p = T - 1 - m
  · subst hp
    rw [if_pos rfl, if_pos (by omega), show T - 1 - (T - 1 - m) = m by omega]
  · rw [if_neg hp]
    by_cases h1 : T - m ≤ p ∧ p < T ∧ p < 800
    · rw [if_pos h1, if_pos (by omega)]
    · rw [if_neg h1, if_neg (by omega)]
theorem outd_far {d : Nat → Nat} {T M m : Nat} (h8 : ¬ T - 1 - m < 800) : outd d T M m = outd d T M (m + 1) := by
  funext p
  unfold outd
  by_cases h1 : T - m ≤ p ∧ p < T ∧ p < 800
  · rw [if_pos h1, if_pos (by omega)]
  · rw [if_neg h1, if_neg (by omega)]

theorem u64_of {z : Int} {n : Nat} (h : z = (n : Int)) (hn : n < 18446744073709551616) : IntKind.u64.wrap z = (n : Int) := by rw [h, IntKind.wrap_u64]; omega
theorem i64_of {z : Int} {n : Nat} (h : z = (n : Int)) (hn : n < 9223372036854775808) : IntKind.i64.wrap z = (n : Int) := by rw [h]; exact wrap_small _ (by omega) (by omega)
theorem u8_of {z : Int} {n : Nat} (h : z = (n : Int)) (hn : n < 256) : IntKind.u8.wrap z = (n : Int) := by
  rw [h]
  simp [IntKind.wrap, IntKind.bits, IntKind.signed]
  omega
theorem tdiv10 (n : Nat) : (n : Int).tdiv 10 = ((n / 10 : Nat) : Int) := by
  rw [Int.tdiv_eq_ediv_of_nonneg (by omega)]; rfl

theorem trimN_pos {d : Nat → Nat} (h : d 0 ≠ 48) : ∀ n, 1 ≤ n → 1 ≤ trimN d n
  | 0, h0 => by omega
  | n + 1, _ => by
    unfold trimN
    split
    · rename_i he
      rcases Nat.eq_zero_or_pos n with rfl | hn
      · exact absurd he h
      · exact trimN_pos h n hn
    · omega
theorem lead_out {d : Nat → Nat} {T M : Nat} (hlo : 10 ^ (T - 1) ≤ M) (hhi : M < 10 ^ T) (hT : 1 ≤ T) : outd d T M T 0 = 48 + M / 10 ^ (T - 1) ∧ 1 ≤ M / 10 ^ (T - 1) ∧ M / 10 ^ (T - 1) ≤ 9 := by
  have h1 : 1 ≤ M / 10 ^ (T - 1) := Nat.div_pos hlo (Nat.pow_pos (by decide))
  have h2 : M / 10 ^ (T - 1) < 10 := by
    rw [Nat.div_lt_iff_lt_mul (Nat.pow_pos (by decide))]
    have e : 10 * 10 ^ (T - 1) = 10 ^ T := by
      rw [Nat.mul_comm, ← Nat.pow_succ]
      congr 1
      omega
    rw [e]
    exact hhi
  refine ⟨?_, h1, by omega⟩
  unfold outd
  rw [if_pos (by omega), Nat.sub_zero, Nat.mod_eq_of_lt h2]
theorem trim_lead {d : Nat → Nat} {T M : Nat} (hlo : 10 ^ (T - 1) ≤ M) (hhi : M < 10 ^ T) (hT : 1 ≤ T) : trimN (outd d T M T) (min T 800) ≠ 0 := by
  obtain ⟨h1, h2, h3⟩ := lead_out (d := d) hlo hhi hT
  have := trimN_pos (d := outd d T M T) (by omega) (min T 800) (by omega)
  omega

set_option maxRecDepth 100000 in
set_option maxHeartbeats 16000000 in
theorem left_walk (b k dt : Nat) (cut : ByteArray) (d : Nat → Nat) (nd : Nat) (dp : Int) (tr : Bool) (w : World) (h : DecAt w b d nd dp tr) (hN : Norm d nd) (hT : LTab w b k dt cut) (hk : k ≤ 60) (hC : Cheat k dt cut.data.toList) (hcs : cut.size ≤ 1000)
    (dl T V M : Nat) (hdl : Hid (dl = dlt d nd dt cut.data.toList)) (hTe : T = nd + dl) (hV : Hid (V = val d nd)) (hM : Hid (M = V * 2 ^ k)) (N : Nat) (hNN : Hid (trimN (outd d T M T) (min T 800) = N)) (hdt : dt ≤ 20) (hdp : -1000000 ≤ dp ∧ dp ≤ 1000000) :
    Calls Tryd.prog 55 #[.pointer (some ⟨b, 0, none⟩), .int .u64 (k : Int)] w fun e w' => e = .returned (.tuple #[]) ∧ DecAt w' b (outd d T M T) N (dp + dl) (trm tr T M T) ∧ Kp b w w' := by
  obtain ⟨lb, lbo, hl0, hl1, hl2, hn1, hn2⟩ := hT.ex
  have hc := h.cnd
  have hcp := h.cdp
  have hkz : (k : Int) < 61 := by omega
  have hkl : k < 61 := by omega
  have hndz : (nd : Int) ≤ 800 := by have := hN.le; omega
  have hndl := hN.le
  have hndp := hN.pos
  have hcells : Hid (∀ n i, i < nd → (w.drewN n).cell? ⟨b, i, none⟩ = some (.int .u8 (d i : Int))) := fun n i hi => (h.drewN n).cd (by omega)
  have HDL := hdl
  have hone := hC.one
  cases hP : plt d nd 0 cut.data.toList
  · obtain rfl : dl = dt := by rw [hdl.out]; unfold dlt; rw [if_neg (by rw [hP]; exact Bool.false_ne_true)]
    have HP : Hid (plt d nd 0 cut.data.toList = false) := hP
    clear hP hdl
    go_enter Tryd.func55, Tryd.ntmps55
    go_wp2_with fail
    go_quiet ((go_at_call 62; refine (prefix_walk b d nd cut _ (hcells.out _) hndl hcs false HP).mono ?_; rintro e w' ⟨he, n', hw⟩; exact ⟨he, _, by rw [hw]; exact drewN_add _ _ _⟩))
    go_wp2_with fail
    generalize hND : w.drewN _ = w1
    have hd1 : DecAt w1 b d nd dp tr := by rw [← hND]; exact h.drewN _
    have hk1 : Kp b w w1 := by rw [← hND]; exact (Kp.refl b w).drewN _
    clear hND h hl0 hl1 hl2 hc hcp hcells hT
    go_loopg [5, 6, 7] (nd + 1) (fun gf v5 v6 v7 wr => ∃ (m c : Nat) (rz wz : Int), m ≤ nd ∧ v5 = .int .i64 rz ∧ v6 = .int .i64 wz ∧ v7 = .int .u64 (c : Int) ∧ Hid (rz = (nd : Int) - 1 - (m : Int)) ∧ Hid (wz = (T : Int) - (m : Int)) ∧ Hid (c = car V k m) ∧ DecAt wr b (outd d T M m) nd dp (trm tr T M m) ∧ Kp b w wr ∧ nd < gf + m)
    case atStart => exact ⟨0, 0, _, _, Nat.zero_le _, rfl, rfl, rfl, (by show _ = _; simp), (by show _ = _; simp [hTe]), (by show _ = _; simp [car, Nat.mod_one]), by rw [outd_zero]; exact hd1, hk1, by omega⟩
    case round =>
      obtain ⟨m, c, rz, wz, hm, rfl, rfl, rfl, HRZ, HWZ, HC, hdw, hkw, hg⟩ := hrel
      clear hd1 hk1
      by_cases hmn : m < nd
      · obtain ⟨r, hr⟩ : ∃ r : Nat, rz = (r : Int) := ⟨nd - 1 - m, by have := HRZ.out; omega⟩
        obtain ⟨p, hp⟩ : ∃ p : Nat, wz = (p : Int) + 1 := ⟨T - m - 1, by have := HWZ.out; omega⟩
        subst hr hp
        have HR : Hid (r = nd - 1 - m) := by have := HRZ.out; show _ = _; omega
        have HPP : Hid (p = T - 1 - m) := by have := HWZ.out; show _ = _; omega
        clear HRZ HWZ
        have hr8 : r < 800 := by have := HR.out; omega
        have hrz8 : (r : Int) < 800 := by omega
        have hrpos : (0 : Int) ≤ (r : Int) := by omega
        have hcell := hdw.cd hr8
        rw [outd_low (by have := HR.out; omega)] at hcell
        obtain ⟨dr, hdr⟩ : ∃ dr, d r = dr := ⟨_, rfl⟩
        rw [hdr] at hcell
        have HDR : Hid (d r = dr) := hdr
        clear hdr
        have hd48 : 48 ≤ dr ∧ dr ≤ 57 := by rw [← HDR.out]; exact hN.dig r (by have := HR.out; omega)
        have hd1 : (48 : Int) ≤ (dr : Int) := by omega
        have hd2 : (dr : Int) ≤ 57 := by omega
        have hcn := hdw.cnd
        have hct := hdw.ctr
        have hfp := hdw.fr p
        have hpl : p < 2000 := by have := HPP.out; omega
        obtain ⟨G, hG⟩ : ∃ G, (dr - 48) * 2 ^ k = G := ⟨_, rfl⟩
        obtain ⟨X, hX⟩ : ∃ X, c + G = X := ⟨_, rfl⟩
        obtain ⟨Q, hQ⟩ : ∃ Q, X / 10 = Q := ⟨_, rfl⟩
        obtain ⟨Rm, hRm⟩ : ∃ Rm, X % 10 = Rm := ⟨_, rfl⟩
        have HRm : Hid (Rm = M / 10 ^ m % 10) := by
          show _ = _
          rw [← hRm, ← hX, ← hG, HC.out, ← HDR.out, HR.out, ← val_dig hN.dig m hmn, ← hV.out, car_dig, hM.out]
        have HQ : Hid (Q = car V k (m + 1)) := by
          show _ = _
          rw [← hQ, ← hX, ← hG, HC.out, ← HDR.out, HR.out, ← val_dig hN.dig m hmn, ← hV.out, car_next]
        have hG9 : G ≤ 9 * 2 ^ k := by rw [← hG]; exact Nat.mul_le_mul_right _ (by omega)
        have hcl : c < 2 ^ k := by rw [HC.out]; exact car_lt _ _ _
        have h2k : 2 ^ k ≤ 2 ^ 60 := Nat.pow_le_pow_right (by decide) hk
        have h260 : (2 : Nat) ^ 60 = 1152921504606846976 := by decide
        have w1 : IntKind.u64.wrap (((dr : Int) - 48) * 2 ^ k) = (G : Int) := u64_of (by rw [← hG]; push_cast [hd48.1]; rfl) (by omega)
        have w2 : IntKind.u64.wrap ((c : Int) + (G : Int)) = (X : Int) := u64_of (by omega) (by omega)
        have w3 : IntKind.u64.wrap ((X : Int).tdiv 10) = (Q : Int) := u64_of (by rw [tdiv10, hQ]) (by omega)
        have w3b : IntKind.u64.wrap ((X : Int) / 10) = (Q : Int) := u64_of (by omega) (by omega)
        have w4 : IntKind.u64.wrap (10 * (Q : Int)) = ((10 * Q : Nat) : Int) := u64_of (by omega) (by omega)
        have w5 : IntKind.u64.wrap ((X : Int) - ((10 * Q : Nat) : Int)) = (Rm : Int) := u64_of (by omega) (by omega)
        have w5b : IntKind.u64.wrap ((X : Int) - 10 * (Q : Int)) = (Rm : Int) := u64_of (by omega) (by omega)
        have w6 : IntKind.u64.wrap ((Rm : Int) + 48) = ((Rm + 48 : Nat) : Int) := u64_of (by omega) (by omega)
        have w7 : IntKind.u8.wrap ((Rm + 48 : Nat) : Int) = ((Rm + 48 : Nat) : Int) := u8_of rfl (by omega)
        have hRm9 : Rm ≤ 9 := by omega
        have HMT : Hid (m < T) := by show m < T; omega
        have w8 : IntKind.i64.wrap ((p : Int) + 1 - 1) = (p : Int) := i64_of (by omega) (by omega)
        have w9 : IntKind.i64.wrap (p : Int) = (p : Int) := i64_of rfl (by omega)
        clear hG hX hQ hRm hG9 h2k h260 HC HDR hcl hN hC hdt hdp hNN hV hM hTe HP
        by_cases hp8 : p < 800
        · have hp8z : (p : Int) < 800 := by omega
          have hcp := hdw.cd hp8
          go_wp2_with fail
          go_roundg (gk - 1)
          case measure => omega
          case rel =>
            refine ⟨m + 1, Q, _, _, by omega, rfl, rfl, rfl, (by have := HR.out; show _ = _; push_cast; omega), (by have := HPP.out; have := HMT.out; show _ = _; push_cast; omega), HQ, ?_, hkw.setCell rfl _, by omega⟩
            rw [← outd_put HMT.out (by have := HPP.out; omega), ← HRm.out, ← HPP.out, Nat.add_comm 48]
            rw [show trm tr T M (m + 1) = trm tr T M m from by rw [trm, decide_eq_false (by have := HPP.out; omega), Bool.false_and, Bool.or_false]]
            exact hdw.setD hp8 _ _ (by go_num)
        · have hp8b : decide ((p : Int) < 800) = false := decide_eq_false (by omega)
          have HP8 : Hid (¬ p < 800) := hp8
          clear hp8 hpl
          by_cases hz : Rm = 0
          · have hzb : ((Rm : Int) == 0) = true := by rw [beq_iff_eq]; omega
            have HZ : Hid (Rm = 0) := hz
            clear hz
            go_wp2_with fail
            go_roundg (gk - 1)
            case measure => omega
            case rel =>
              refine ⟨m + 1, Q, _, _, by omega, rfl, rfl, rfl, (by have := HR.out; show _ = _; push_cast; omega), (by have := HPP.out; have := HMT.out; show _ = _; push_cast; omega), HQ, ?_, hkw, by omega⟩
              rw [← outd_far (by have := HPP.out; have := HP8.out; omega)]
              rw [show trm tr T M (m + 1) = trm tr T M m from by rw [trm, ← HRm.out, HZ.out]; simp]
              exact hdw
          · have hzb : ((Rm : Int) == 0) = false := by rw [beq_eq_false_iff_ne]; omega
            have hft := hdw.fr 803
            go_wp2_with fail
            go_roundg (gk - 1)
            case measure => omega
            case rel =>
              refine ⟨m + 1, Q, _, _, by omega, rfl, rfl, rfl, (by have := HR.out; show _ = _; push_cast; omega), (by have := HPP.out; have := HMT.out; show _ = _; push_cast; omega), HQ, ?_, hkw.setCell rfl _, by omega⟩
              rw [← outd_far (by have := HPP.out; have := HP8.out; omega)]
              rw [show trm tr T M (m + 1) = true from by rw [trm, ← HRm.out, decide_eq_true (by have := HPP.out; have := HP8.out; omega), decide_eq_false hz]; simp]
              exact hdw.setTr true
      · have hmn' : m = nd := by omega
        subst hmn'
        have hrn : rz = -1 := by have := HRZ.out; omega
        subst hrn
        have HC0 : Hid (c = M / 10 ^ m) := by show _ = _; rw [HC.out, car_all (by rw [hV.out]; exact val_lt m hN.dig), hM.out]
        have hcb : c < 1152921504606846976 := by
          have h1 := car_lt V k m
          have h2 : 2 ^ k ≤ 2 ^ 60 := Nat.pow_le_pow_right (by decide) hk
          have h3 : (2 : Nat) ^ 60 = 1152921504606846976 := by decide
          rw [HC.out]
          omega
        have HLO : Hid (10 ^ (T - 1) ≤ M) := by
          have := (shl_bounds hN hC).2
          rw [← HDL.out, ← hTe, ← hV.out, ← hM.out] at this
          exact this
        have HHI : Hid (M < 10 ^ T) := by
          have := (shl_bounds hN hC).1
          rw [← HDL.out, ← hTe, ← hV.out, ← hM.out] at this
          exact this
        have HTE : Hid (T = m + dl) := hTe
        have hTs : T ≤ 900 := by omega
        clear HC HRZ hg HP HDL hN hC hV hM hTe
        go_wp2_with fail
        go_loopg [6, 7] (T + 1) (fun gf v6 v7 wr => ∃ (j c : Nat) (wz : Int), j ≤ T ∧ v6 = .int .i64 wz ∧ v7 = .int .u64 (c : Int) ∧ Hid (wz = (T : Int) - (j : Int)) ∧ Hid (c = M / 10 ^ j) ∧ c < 1152921504606846976 ∧ DecAt wr b (outd d T M j) m dp (trm tr T M j) ∧ Kp b w wr ∧ T < gf + j)
        case atStart => exact ⟨m, c, _, by have := HTE.out; omega, rfl, rfl, HWZ, HC0, hcb, hdw, hkw, by omega⟩
        case round =>
          clear HC0 hcb hdw hkw HWZ
          obtain ⟨j, c, wz, hj, rfl, rfl, HWZ, HC, hcb, hdw, hkw, hg⟩ := hrel
          by_cases hc0 : c = 0
          · have HJ : Hid (j = T) := by
              show _ = _
              rcases Nat.lt_or_ge j T with hlt | hge
              · exfalso
                have h1 : 10 ^ j ≤ M := Nat.le_trans (Nat.pow_le_pow_right (by decide) (by omega)) HLO.out
                have h2 : 0 < M / 10 ^ j := Nat.div_pos h1 (Nat.pow_pos (by decide))
                rw [← HC.out] at h2
                omega
              · omega
            subst hc0
            have hdT : DecAt wr b (outd d T M T) m dp (trm tr T M T) := by rw [HJ.out] at hdw; exact hdw
            have hcn := hdT.cnd
            have hcp := hdT.cdp
            have hfn := hdT.fr 800
            have hfp := hdT.fr 801
            have htz : (m : Int) + (dl : Int) = (T : Int) := by have := HTE.out; omega
            have HNZ : Hid (N ≠ 0) := by
              show N ≠ 0
              rw [← hNN.out]
              exact trim_lead HLO.out HHI.out (by have := HTE.out; omega)
            have HPT : Hid (dp + (dl : Int) = if N = 0 then 0 else dp + (dl : Int)) := by show _ = _; rw [if_neg HNZ.out]
            clear hdw HWZ HC hcb hg HJ HLO HHI HNZ
            by_cases hT8 : 800 ≤ T
            · have hT8z : (800 : Int) ≤ (T : Int) := by omega
              have HNN : Hid (trimN (outd d T M T) 800 = N) := by show _ = _; rw [← hNN.out, Nat.min_eq_right hT8]
              clear hNN
              go_wp2_with fail
              go_at_call 63
              refine (trim_walk b (outd d T M T) 800 (dp + (dl : Int)) (trm tr T M T) _ (((hdT.setNd _).toNd _ _ rfl).toDp _ _ rfl) (Nat.le_refl _) N HNN _ HPT).mono ?_
              rintro e w' ⟨rfl, hd', hk'⟩
              go_wp2
              go_end0
              exact ⟨rfl, hd', (((hkw.setCell rfl _).setCell rfl _).setCell rfl _).trans hk'⟩
            · have hT8z : decide ((800 : Int) ≤ (T : Int)) = false := decide_eq_false (by omega)
              have HNN : Hid (trimN (outd d T M T) T = N) := by show _ = _; rw [← hNN.out, Nat.min_eq_left (by omega)]
              clear hNN
              go_wp2_with fail
              go_at_call 63
              refine (trim_walk b (outd d T M T) T (dp + (dl : Int)) (trm tr T M T) _ ((hdT.toNd _ _ rfl).toDp _ _ rfl) (by omega) N HNN _ HPT).mono ?_
              rintro e w' ⟨rfl, hd', hk'⟩
              go_wp2
              go_end0
              exact ⟨rfl, hd', ((hkw.setCell rfl _).setCell rfl _).trans hk'⟩
          · have hcz : (0 : Int) < (c : Int) := by omega
            have HMT : Hid (j < T) := by
              show j < T
              rcases Nat.lt_or_ge j T with hlt | hge
              · exact hlt
              · exfalso
                have h1 : 10 ^ T ≤ 10 ^ j := Nat.pow_le_pow_right (by decide) hge
                have h2 : M / 10 ^ j = 0 := Nat.div_eq_of_lt (Nat.lt_of_lt_of_le HHI.out h1)
                rw [← HC.out] at h2
                omega
            obtain ⟨p, hp⟩ : ∃ p : Nat, wz = (p : Int) + 1 := ⟨T - j - 1, by have := HWZ.out; have := HMT.out; omega⟩
            subst hp
            have HPP : Hid (p = T - 1 - j) := by have := HWZ.out; show _ = _; omega
            have hpl : p < 2000 := by have := HPP.out; omega
            have hct := hdw.ctr
            have hfp := hdw.fr p
            obtain ⟨Q, hQ⟩ : ∃ Q, c / 10 = Q := ⟨_, rfl⟩
            obtain ⟨Rm, hRm⟩ : ∃ Rm, c % 10 = Rm := ⟨_, rfl⟩
            have HRm : Hid (Rm = M / 10 ^ j % 10) := by show _ = _; rw [← hRm, HC.out]
            have HQ : Hid (Q = M / 10 ^ (j + 1)) := by show _ = _; rw [← hQ, HC.out, Nat.pow_succ, Nat.div_div_eq_div_mul]
            have hQb : Q < 1152921504606846976 := by omega
            have w3 : IntKind.u64.wrap ((c : Int).tdiv 10) = (Q : Int) := u64_of (by rw [tdiv10, hQ]) (by omega)
            have w3b : IntKind.u64.wrap ((c : Int) / 10) = (Q : Int) := u64_of (by omega) (by omega)
            have w4 : IntKind.u64.wrap (10 * (Q : Int)) = ((10 * Q : Nat) : Int) := u64_of (by omega) (by omega)
            have w5 : IntKind.u64.wrap ((c : Int) - ((10 * Q : Nat) : Int)) = (Rm : Int) := u64_of (by omega) (by omega)
            have w5b : IntKind.u64.wrap ((c : Int) - 10 * (Q : Int)) = (Rm : Int) := u64_of (by omega) (by omega)
            have w6 : IntKind.u64.wrap ((Rm : Int) + 48) = ((Rm + 48 : Nat) : Int) := u64_of (by omega) (by omega)
            have w7 : IntKind.u8.wrap ((Rm + 48 : Nat) : Int) = ((Rm + 48 : Nat) : Int) := u8_of rfl (by omega)
            have hRm9 : Rm ≤ 9 := by omega
            have w8 : IntKind.i64.wrap ((p : Int) + 1 - 1) = (p : Int) := i64_of (by omega) (by omega)
            have w9 : IntKind.i64.wrap (p : Int) = (p : Int) := i64_of rfl (by omega)
            clear hQ hRm HC hNN HLO HHI HTE HWZ hcb hdt hdp
            by_cases hp8 : p < 800
            · have hp8z : (p : Int) < 800 := by omega
              have hcp := hdw.cd hp8
              go_wp2_with fail
              go_roundg (gk - 1)
              case measure => omega
              case rel =>
                refine ⟨j + 1, Q, _, by have := HMT.out; omega, rfl, rfl, (by have := HPP.out; have := HMT.out; show _ = _; push_cast; omega), HQ, hQb, ?_, hkw.setCell rfl _, by omega⟩
                rw [← outd_put HMT.out (by have := HPP.out; omega), ← HRm.out, ← HPP.out, Nat.add_comm 48]
                rw [show trm tr T M (j + 1) = trm tr T M j from by rw [trm, decide_eq_false (by have := HPP.out; omega), Bool.false_and, Bool.or_false]]
                exact hdw.setD hp8 _ _ (by go_num)
            · have hp8b : decide ((p : Int) < 800) = false := decide_eq_false (by omega)
              have HP8 : Hid (¬ p < 800) := hp8
              clear hp8 hpl
              by_cases hz : Rm = 0
              · have hzb : ((Rm : Int) == 0) = true := by rw [beq_iff_eq]; omega
                have HZ : Hid (Rm = 0) := hz
                clear hz
                go_wp2_with fail
                go_roundg (gk - 1)
                case measure => omega
                case rel =>
                  refine ⟨j + 1, Q, _, by have := HMT.out; omega, rfl, rfl, (by have := HPP.out; have := HMT.out; show _ = _; push_cast; omega), HQ, hQb, ?_, hkw, by omega⟩
                  rw [← outd_far (by have := HPP.out; have := HP8.out; omega)]
                  rw [show trm tr T M (j + 1) = trm tr T M j from by rw [trm, ← HRm.out, HZ.out]; simp]
                  exact hdw
              · have hzb : ((Rm : Int) == 0) = false := by rw [beq_eq_false_iff_ne]; omega
                have hft := hdw.fr 803
                go_wp2_with fail
                go_roundg (gk - 1)
                case measure => omega
                case rel =>
                  refine ⟨j + 1, Q, _, by have := HMT.out; omega, rfl, rfl, (by have := HPP.out; have := HMT.out; show _ = _; push_cast; omega), HQ, hQb, ?_, hkw.setCell rfl _, by omega⟩
                  rw [← outd_far (by have := HPP.out; have := HP8.out; omega)]
                  rw [show trm tr T M (j + 1) = true from by rw [trm, ← HRm.out, decide_eq_true (by have := HPP.out; have := HP8.out; omega), decide_eq_false hz]; simp]
                  exact hdw.setTr true
  · obtain rfl : dt = dl + 1 := by have := hdl.out; unfold dlt at this; rw [if_pos hP] at this; omega
    have HP : Hid (plt d nd 0 cut.data.toList = true) := hP
    clear hP hdl
    go_enter Tryd.func55, Tryd.ntmps55
    go_wp2_with fail
    go_quiet ((go_at_call 62; refine (prefix_walk b d nd cut _ (hcells.out _) hndl hcs true HP).mono ?_; rintro e w' ⟨he, n', hw⟩; exact ⟨he, _, by rw [hw]; exact drewN_add _ _ _⟩))
    go_wp2_with fail
    generalize hND : w.drewN _ = w1
    have hd1 : DecAt w1 b d nd dp tr := by rw [← hND]; exact h.drewN _
    have hk1 : Kp b w w1 := by rw [← hND]; exact (Kp.refl b w).drewN _
    clear hND h hl0 hl1 hl2 hc hcp hcells hT
    go_loopg [5, 6, 7] (nd + 1) (fun gf v5 v6 v7 wr => ∃ (m c : Nat) (rz wz : Int), m ≤ nd ∧ v5 = .int .i64 rz ∧ v6 = .int .i64 wz ∧ v7 = .int .u64 (c : Int) ∧ Hid (rz = (nd : Int) - 1 - (m : Int)) ∧ Hid (wz = (T : Int) - (m : Int)) ∧ Hid (c = car V k m) ∧ DecAt wr b (outd d T M m) nd dp (trm tr T M m) ∧ Kp b w wr ∧ nd < gf + m)
    case atStart => exact ⟨0, 0, _, _, Nat.zero_le _, rfl, rfl, rfl, (by show _ = _; simp), (by show _ = _; simp [hTe]), (by show _ = _; simp [car, Nat.mod_one]), by rw [outd_zero]; exact hd1, hk1, by omega⟩
    case round =>
      obtain ⟨m, c, rz, wz, hm, rfl, rfl, rfl, HRZ, HWZ, HC, hdw, hkw, hg⟩ := hrel
      clear hd1 hk1
      by_cases hmn : m < nd
      · obtain ⟨r, hr⟩ : ∃ r : Nat, rz = (r : Int) := ⟨nd - 1 - m, by have := HRZ.out; omega⟩
        obtain ⟨p, hp⟩ : ∃ p : Nat, wz = (p : Int) + 1 := ⟨T - m - 1, by have := HWZ.out; omega⟩
        subst hr hp
        have HR : Hid (r = nd - 1 - m) := by have := HRZ.out; show _ = _; omega
        have HPP : Hid (p = T - 1 - m) := by have := HWZ.out; show _ = _; omega
        clear HRZ HWZ
        have hr8 : r < 800 := by have := HR.out; omega
        have hrz8 : (r : Int) < 800 := by omega
        have hrpos : (0 : Int) ≤ (r : Int) := by omega
        have hcell := hdw.cd hr8
        rw [outd_low (by have := HR.out; omega)] at hcell
        obtain ⟨dr, hdr⟩ : ∃ dr, d r = dr := ⟨_, rfl⟩
        rw [hdr] at hcell
        have HDR : Hid (d r = dr) := hdr
        clear hdr
        have hd48 : 48 ≤ dr ∧ dr ≤ 57 := by rw [← HDR.out]; exact hN.dig r (by have := HR.out; omega)
        have hd1 : (48 : Int) ≤ (dr : Int) := by omega
        have hd2 : (dr : Int) ≤ 57 := by omega
        have hcn := hdw.cnd
        have hct := hdw.ctr
        have hfp := hdw.fr p
        have hpl : p < 2000 := by have := HPP.out; omega
        obtain ⟨G, hG⟩ : ∃ G, (dr - 48) * 2 ^ k = G := ⟨_, rfl⟩
        obtain ⟨X, hX⟩ : ∃ X, c + G = X := ⟨_, rfl⟩
        obtain ⟨Q, hQ⟩ : ∃ Q, X / 10 = Q := ⟨_, rfl⟩
        obtain ⟨Rm, hRm⟩ : ∃ Rm, X % 10 = Rm := ⟨_, rfl⟩
        have HRm : Hid (Rm = M / 10 ^ m % 10) := by
          show _ = _
          rw [← hRm, ← hX, ← hG, HC.out, ← HDR.out, HR.out, ← val_dig hN.dig m hmn, ← hV.out, car_dig, hM.out]
        have HQ : Hid (Q = car V k (m + 1)) := by
          show _ = _
          rw [← hQ, ← hX, ← hG, HC.out, ← HDR.out, HR.out, ← val_dig hN.dig m hmn, ← hV.out, car_next]
        have hG9 : G ≤ 9 * 2 ^ k := by rw [← hG]; exact Nat.mul_le_mul_right _ (by omega)
        have hcl : c < 2 ^ k := by rw [HC.out]; exact car_lt _ _ _
        have h2k : 2 ^ k ≤ 2 ^ 60 := Nat.pow_le_pow_right (by decide) hk
        have h260 : (2 : Nat) ^ 60 = 1152921504606846976 := by decide
        have w1 : IntKind.u64.wrap (((dr : Int) - 48) * 2 ^ k) = (G : Int) := u64_of (by rw [← hG]; push_cast [hd48.1]; rfl) (by omega)
        have w2 : IntKind.u64.wrap ((c : Int) + (G : Int)) = (X : Int) := u64_of (by omega) (by omega)
        have w3 : IntKind.u64.wrap ((X : Int).tdiv 10) = (Q : Int) := u64_of (by rw [tdiv10, hQ]) (by omega)
        have w3b : IntKind.u64.wrap ((X : Int) / 10) = (Q : Int) := u64_of (by omega) (by omega)
        have w4 : IntKind.u64.wrap (10 * (Q : Int)) = ((10 * Q : Nat) : Int) := u64_of (by omega) (by omega)
        have w5 : IntKind.u64.wrap ((X : Int) - ((10 * Q : Nat) : Int)) = (Rm : Int) := u64_of (by omega) (by omega)
        have w5b : IntKind.u64.wrap ((X : Int) - 10 * (Q : Int)) = (Rm : Int) := u64_of (by omega) (by omega)
        have w6 : IntKind.u64.wrap ((Rm : Int) + 48) = ((Rm + 48 : Nat) : Int) := u64_of (by omega) (by omega)
        have w7 : IntKind.u8.wrap ((Rm + 48 : Nat) : Int) = ((Rm + 48 : Nat) : Int) := u8_of rfl (by omega)
        have hRm9 : Rm ≤ 9 := by omega
        have HMT : Hid (m < T) := by show m < T; omega
        have w8 : IntKind.i64.wrap ((p : Int) + 1 - 1) = (p : Int) := i64_of (by omega) (by omega)
        have w9 : IntKind.i64.wrap (p : Int) = (p : Int) := i64_of rfl (by omega)
        clear hG hX hQ hRm hG9 h2k h260 HC HDR hcl hN hC hdt hdp hNN hV hM hTe HP
        by_cases hp8 : p < 800
        · have hp8z : (p : Int) < 800 := by omega
          have hcp := hdw.cd hp8
          go_wp2_with fail
          go_roundg (gk - 1)
          case measure => omega
          case rel =>
            refine ⟨m + 1, Q, _, _, by omega, rfl, rfl, rfl, (by have := HR.out; show _ = _; push_cast; omega), (by have := HPP.out; have := HMT.out; show _ = _; push_cast; omega), HQ, ?_, hkw.setCell rfl _, by omega⟩
            rw [← outd_put HMT.out (by have := HPP.out; omega), ← HRm.out, ← HPP.out, Nat.add_comm 48]
            rw [show trm tr T M (m + 1) = trm tr T M m from by rw [trm, decide_eq_false (by have := HPP.out; omega), Bool.false_and, Bool.or_false]]
            exact hdw.setD hp8 _ _ (by go_num)
        · have hp8b : decide ((p : Int) < 800) = false := decide_eq_false (by omega)
          have HP8 : Hid (¬ p < 800) := hp8
          clear hp8 hpl
          by_cases hz : Rm = 0
          · have hzb : ((Rm : Int) == 0) = true := by rw [beq_iff_eq]; omega
            have HZ : Hid (Rm = 0) := hz
            clear hz
            go_wp2_with fail
            go_roundg (gk - 1)
            case measure => omega
            case rel =>
              refine ⟨m + 1, Q, _, _, by omega, rfl, rfl, rfl, (by have := HR.out; show _ = _; push_cast; omega), (by have := HPP.out; have := HMT.out; show _ = _; push_cast; omega), HQ, ?_, hkw, by omega⟩
              rw [← outd_far (by have := HPP.out; have := HP8.out; omega)]
              rw [show trm tr T M (m + 1) = trm tr T M m from by rw [trm, ← HRm.out, HZ.out]; simp]
              exact hdw
          · have hzb : ((Rm : Int) == 0) = false := by rw [beq_eq_false_iff_ne]; omega
            have hft := hdw.fr 803
            go_wp2_with fail
            go_roundg (gk - 1)
            case measure => omega
            case rel =>
              refine ⟨m + 1, Q, _, _, by omega, rfl, rfl, rfl, (by have := HR.out; show _ = _; push_cast; omega), (by have := HPP.out; have := HMT.out; show _ = _; push_cast; omega), HQ, ?_, hkw.setCell rfl _, by omega⟩
              rw [← outd_far (by have := HPP.out; have := HP8.out; omega)]
              rw [show trm tr T M (m + 1) = true from by rw [trm, ← HRm.out, decide_eq_true (by have := HPP.out; have := HP8.out; omega), decide_eq_false hz]; simp]
              exact hdw.setTr true
      · have hmn' : m = nd := by omega
        subst hmn'
        have hrn : rz = -1 := by have := HRZ.out; omega
        subst hrn
        have HC0 : Hid (c = M / 10 ^ m) := by show _ = _; rw [HC.out, car_all (by rw [hV.out]; exact val_lt m hN.dig), hM.out]
        have hcb : c < 1152921504606846976 := by
          have h1 := car_lt V k m
          have h2 : 2 ^ k ≤ 2 ^ 60 := Nat.pow_le_pow_right (by decide) hk
          have h3 : (2 : Nat) ^ 60 = 1152921504606846976 := by decide
          rw [HC.out]
          omega
        have HLO : Hid (10 ^ (T - 1) ≤ M) := by
          have := (shl_bounds hN hC).2
          rw [← HDL.out, ← hTe, ← hV.out, ← hM.out] at this
          exact this
        have HHI : Hid (M < 10 ^ T) := by
          have := (shl_bounds hN hC).1
          rw [← HDL.out, ← hTe, ← hV.out, ← hM.out] at this
          exact this
        have HTE : Hid (T = m + dl) := hTe
        have hTs : T ≤ 900 := by omega
        clear HC HRZ hg HP HDL hN hC hV hM hTe
        go_wp2_with fail
        go_loopg [6, 7] (T + 1) (fun gf v6 v7 wr => ∃ (j c : Nat) (wz : Int), j ≤ T ∧ v6 = .int .i64 wz ∧ v7 = .int .u64 (c : Int) ∧ Hid (wz = (T : Int) - (j : Int)) ∧ Hid (c = M / 10 ^ j) ∧ c < 1152921504606846976 ∧ DecAt wr b (outd d T M j) m dp (trm tr T M j) ∧ Kp b w wr ∧ T < gf + j)
        case atStart => exact ⟨m, c, _, by have := HTE.out; omega, rfl, rfl, HWZ, HC0, hcb, hdw, hkw, by omega⟩
        case round =>
          clear HC0 hcb hdw hkw HWZ
          obtain ⟨j, c, wz, hj, rfl, rfl, HWZ, HC, hcb, hdw, hkw, hg⟩ := hrel
          by_cases hc0 : c = 0
          · have HJ : Hid (j = T) := by
              show _ = _
              rcases Nat.lt_or_ge j T with hlt | hge
              · exfalso
                have h1 : 10 ^ j ≤ M := Nat.le_trans (Nat.pow_le_pow_right (by decide) (by omega)) HLO.out
                have h2 : 0 < M / 10 ^ j := Nat.div_pos h1 (Nat.pow_pos (by decide))
                rw [← HC.out] at h2
                omega
              · omega
            subst hc0
            have hdT : DecAt wr b (outd d T M T) m dp (trm tr T M T) := by rw [HJ.out] at hdw; exact hdw
            have hcn := hdT.cnd
            have hcp := hdT.cdp
            have hfn := hdT.fr 800
            have hfp := hdT.fr 801
            have htz : (m : Int) + (dl : Int) = (T : Int) := by have := HTE.out; omega
            have HNZ : Hid (N ≠ 0) := by
              show N ≠ 0
              rw [← hNN.out]
              exact trim_lead HLO.out HHI.out (by have := HTE.out; omega)
            have HPT : Hid (dp + (dl : Int) = if N = 0 then 0 else dp + (dl : Int)) := by show _ = _; rw [if_neg HNZ.out]
            clear hdw HWZ HC hcb hg HJ HLO HHI HNZ
            by_cases hT8 : 800 ≤ T
            · have hT8z : (800 : Int) ≤ (T : Int) := by omega
              have HNN : Hid (trimN (outd d T M T) 800 = N) := by show _ = _; rw [← hNN.out, Nat.min_eq_right hT8]
              clear hNN
              go_wp2_with fail
              go_at_call 63
              refine (trim_walk b (outd d T M T) 800 (dp + (dl : Int)) (trm tr T M T) _ (((hdT.setNd _).toNd _ _ rfl).toDp _ _ rfl) (Nat.le_refl _) N HNN _ HPT).mono ?_
              rintro e w' ⟨rfl, hd', hk'⟩
              go_wp2
              go_end0
              exact ⟨rfl, hd', (((hkw.setCell rfl _).setCell rfl _).setCell rfl _).trans hk'⟩
            · have hT8z : decide ((800 : Int) ≤ (T : Int)) = false := decide_eq_false (by omega)
              have HNN : Hid (trimN (outd d T M T) T = N) := by show _ = _; rw [← hNN.out, Nat.min_eq_left (by omega)]
              clear hNN
              go_wp2_with fail
              go_at_call 63
              refine (trim_walk b (outd d T M T) T (dp + (dl : Int)) (trm tr T M T) _ ((hdT.toNd _ _ rfl).toDp _ _ rfl) (by omega) N HNN _ HPT).mono ?_
              rintro e w' ⟨rfl, hd', hk'⟩
              go_wp2
              go_end0
              exact ⟨rfl, hd', ((hkw.setCell rfl _).setCell rfl _).trans hk'⟩
          · have hcz : (0 : Int) < (c : Int) := by omega
            have HMT : Hid (j < T) := by
              show j < T
              rcases Nat.lt_or_ge j T with hlt | hge
              · exact hlt
              · exfalso
                have h1 : 10 ^ T ≤ 10 ^ j := Nat.pow_le_pow_right (by decide) hge
                have h2 : M / 10 ^ j = 0 := Nat.div_eq_of_lt (Nat.lt_of_lt_of_le HHI.out h1)
                rw [← HC.out] at h2
                omega
            obtain ⟨p, hp⟩ : ∃ p : Nat, wz = (p : Int) + 1 := ⟨T - j - 1, by have := HWZ.out; have := HMT.out; omega⟩
            subst hp
            have HPP : Hid (p = T - 1 - j) := by have := HWZ.out; show _ = _; omega
            have hpl : p < 2000 := by have := HPP.out; omega
            have hct := hdw.ctr
            have hfp := hdw.fr p
            obtain ⟨Q, hQ⟩ : ∃ Q, c / 10 = Q := ⟨_, rfl⟩
            obtain ⟨Rm, hRm⟩ : ∃ Rm, c % 10 = Rm := ⟨_, rfl⟩
            have HRm : Hid (Rm = M / 10 ^ j % 10) := by show _ = _; rw [← hRm, HC.out]
            have HQ : Hid (Q = M / 10 ^ (j + 1)) := by show _ = _; rw [← hQ, HC.out, Nat.pow_succ, Nat.div_div_eq_div_mul]
            have hQb : Q < 1152921504606846976 := by omega
            have w3 : IntKind.u64.wrap ((c : Int).tdiv 10) = (Q : Int) := u64_of (by rw [tdiv10, hQ]) (by omega)
            have w3b : IntKind.u64.wrap ((c : Int) / 10) = (Q : Int) := u64_of (by omega) (by omega)
            have w4 : IntKind.u64.wrap (10 * (Q : Int)) = ((10 * Q : Nat) : Int) := u64_of (by omega) (by omega)
            have w5 : IntKind.u64.wrap ((c : Int) - ((10 * Q : Nat) : Int)) = (Rm : Int) := u64_of (by omega) (by omega)
            have w5b : IntKind.u64.wrap ((c : Int) - 10 * (Q : Int)) = (Rm : Int) := u64_of (by omega) (by omega)
            have w6 : IntKind.u64.wrap ((Rm : Int) + 48) = ((Rm + 48 : Nat) : Int) := u64_of (by omega) (by omega)
            have w7 : IntKind.u8.wrap ((Rm + 48 : Nat) : Int) = ((Rm + 48 : Nat) : Int) := u8_of rfl (by omega)
            have hRm9 : Rm ≤ 9 := by omega
            have w8 : IntKind.i64.wrap ((p : Int) + 1 - 1) = (p : Int) := i64_of (by omega) (by omega)
            have w9 : IntKind.i64.wrap (p : Int) = (p : Int) := i64_of rfl (by omega)
            clear hQ hRm HC hNN HLO HHI HTE HWZ hcb hdt hdp
            by_cases hp8 : p < 800
            · have hp8z : (p : Int) < 800 := by omega
              have hcp := hdw.cd hp8
              go_wp2_with fail
              go_roundg (gk - 1)
              case measure => omega
              case rel =>
                refine ⟨j + 1, Q, _, by have := HMT.out; omega, rfl, rfl, (by have := HPP.out; have := HMT.out; show _ = _; push_cast; omega), HQ, hQb, ?_, hkw.setCell rfl _, by omega⟩
                rw [← outd_put HMT.out (by have := HPP.out; omega), ← HRm.out, ← HPP.out, Nat.add_comm 48]
                rw [show trm tr T M (j + 1) = trm tr T M j from by rw [trm, decide_eq_false (by have := HPP.out; omega), Bool.false_and, Bool.or_false]]
                exact hdw.setD hp8 _ _ (by go_num)
            · have hp8b : decide ((p : Int) < 800) = false := decide_eq_false (by omega)
              have HP8 : Hid (¬ p < 800) := hp8
              clear hp8 hpl
              by_cases hz : Rm = 0
              · have hzb : ((Rm : Int) == 0) = true := by rw [beq_iff_eq]; omega
                have HZ : Hid (Rm = 0) := hz
                clear hz
                go_wp2_with fail
                go_roundg (gk - 1)
                case measure => omega
                case rel =>
                  refine ⟨j + 1, Q, _, by have := HMT.out; omega, rfl, rfl, (by have := HPP.out; have := HMT.out; show _ = _; push_cast; omega), HQ, hQb, ?_, hkw, by omega⟩
                  rw [← outd_far (by have := HPP.out; have := HP8.out; omega)]
                  rw [show trm tr T M (j + 1) = trm tr T M j from by rw [trm, ← HRm.out, HZ.out]; simp]
                  exact hdw
              · have hzb : ((Rm : Int) == 0) = false := by rw [beq_eq_false_iff_ne]; omega
                have hft := hdw.fr 803
                go_wp2_with fail
                go_roundg (gk - 1)
                case measure => omega
                case rel =>
                  refine ⟨j + 1, Q, _, by have := HMT.out; omega, rfl, rfl, (by have := HPP.out; have := HMT.out; show _ = _; push_cast; omega), HQ, hQb, ?_, hkw.setCell rfl _, by omega⟩
                  rw [← outd_far (by have := HPP.out; have := HP8.out; omega)]
                  rw [show trm tr T M (j + 1) = true from by rw [trm, ← HRm.out, decide_eq_true (by have := HPP.out; have := HP8.out; omega), decide_eq_false hz]; simp]
                  exact hdw.setTr true
end Go.Proofs.Qxb6608627aDoor
