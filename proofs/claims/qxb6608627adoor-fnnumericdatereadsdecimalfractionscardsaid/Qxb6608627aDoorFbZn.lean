import Derived.Test.Qxb6608627aDoorFbInv
namespace Go.Proofs.Qxb6608627aDoor
open Go.RowKit

set_option maxRecDepth 100000 in
set_option maxHeartbeats 32000000 in
theorem fb_zn {B pb pbo lb lbo fb fbo : Nat} {fT hiT loT : Nat → Nat} (D D1 D2 D3 D4 : Dec) (nA nB : Nat) (e1 e2 e4 : Int) (M : Nat) (hN : Norm D.d D.nd) (hdp : -330 ≤ D.dp ∧ D.dp ≤ 310) (hA : LA nA D 0 D1 e1) (hB : LB nB D1 e1 D2 e2)
    (hE : -300000 ≤ e2 ∧ e1 ≤ 60000) (hd2 : 0 ≤ D2.dp ∧ D2.dp ≤ 30)
    (hadj : ¬ e2 - 1 < -1022 ∧ e4 = e2 - 1 ∧ D3 = D2) (hz2 : D2.dp = 0)
    (hN3 : Norm D3.d D3.nd) (hd3 : -1000000 ≤ D3.dp ∧ D3.dp ≤ 1000) (hL : LS 53 (dtT 53) (cutT 53).data.toList D3 D4) (hN4 : Norm D4.d D4.nd) (hd4 : -1000000 ≤ D4.dp ∧ D4.dp ≤ 2000) (hM : rint D4 = M) (hM64 : M < 18446744073709551616)
    (b : Nat) (w : World) (h : At w b D) (t : Tb B pb pbo lb lbo fb fbo fT hiT loT w) (hb : B ≤ b) (RB : Nat) (RO : Bool) (hRB : Hid (resB e4 M = RB)) (hRO : Hid (resO e4 M = RO)) :
    Calls Tryd.prog 31 #[.pointer (some ⟨b, 0, none⟩), .pointer (some ⟨4, 0, none⟩)] w fun e w' => e = .returned (.tuple #[.int .u64 (RB : Int), .bool RO]) ∧ Kp b w w' := by
  have hBs : B ≤ w.heap.size := Nat.le_trans hb (Nat.le_of_lt (DecAt.lt h))
  have HT : Hid (∀ W, Kp b w W → Tb B pb pbo lb lbo fb fbo fT hiT loT W) := fun W hk => t.mono (hk.below hb hBs)
  have hc := DecAt.cnd h
  have hcp := DecAt.cdp h
  obtain ⟨nd, hnd⟩ : ∃ nd, D.nd = nd := ⟨_, rfl⟩
  obtain ⟨dp, hdpe⟩ : ∃ dp, D.dp = dp := ⟨_, rfl⟩
  have hn1 := hN.pos
  rw [hnd] at hc hn1
  rw [hdpe] at hcp
  have hnz : ((nd : Int) == 0) = false := by rw [beq_eq_false_iff_ne]; omega
  have hdpb : decide ((310 : Int) < dp) = false := decide_eq_false (by omega)
  have hdps : decide (dp < -330) = false := decide_eq_false (by omega)
  have hle1 := la_le hA
  have hle2 := lb_le hB
  have HA0 : Hid (LA nA D 0 D1 e1) := hA
  have HB0 : Hid (LB nB D1 e1 D2 e2) := hB
  have HDP : Hid (-330 ≤ D.dp ∧ D.dp ≤ 310) := hdp
  have HAT : Hid (At w b D) := h
  have HADJ : Hid (¬ e2 - 1 < -1022 ∧ e4 = e2 - 1 ∧ D3 = D2) := hadj
  have HZ2 : Hid (D2.dp = 0) := hz2
  clear hz2
  have HD2 : Hid (0 ≤ D2.dp ∧ D2.dp ≤ 30) := hd2
  have HL53 : Hid (∀ W, Kp b w W → At W b D3 → Calls Tryd.prog 50 #[.pointer (some ⟨b, 0, none⟩), .int .i64 53] W fun e w' => e = .returned (.tuple #[]) ∧ At w' b D4 ∧ Kp b W w') := fun W hk hW => shl_call (k := 53) (by decide) (by decide) hL hN3 (by omega) hb W (HT.out W hk) hW
  have HRI : Hid (∀ W, At W b D4 → Calls Tryd.prog 51 #[.pointer (some ⟨b, 0, none⟩)] W fun e w' => e = .returned (.int .u64 (M : Int)) ∧ w' = W) := fun W hW => rint_walk D4 hN4 (by omega) M hM b W hW
  have HNEG : Hid (∀ (W : World) (D : Dec), At W b D → W.cell? ⟨b, 802, none⟩ = some (.bool false)) := fun W D hW => DecAt.cneg hW
  have HBB : Hid (B ≤ b) := hb
  clear hA hB hdp hdpe hnd h hN t hadj hd2 hL hN3 hd3 hN4 hd4 hM hb hBs
  go_enter Tryd.func31, Tryd.ntmps31
  go_wp2_with fail
  refine wp_scope_fwd ?_
  go_wp2_with fail
  go_loopg [6] (nA + 1) (fun gf v6 wr => ∃ (n : Nat) (D' : Dec) (e : Int), v6 = .int .i64 e ∧ Hid (LA n D' e D1 e1) ∧ Hid (At wr b D') ∧ Kp b w wr ∧ n < gf ∧ 0 ≤ e ∧ Hid (-400 ≤ D'.dp ∧ D'.dp ≤ 310))
  case atStart => exact ⟨nA, D, 0, rfl, HA0, HAT, Kp.refl _ _, by omega, Int.le_refl _, ⟨by have := HDP.out; omega, by have := HDP.out; omega⟩⟩
  case round =>
    clear HA0 HAT HDP hc hcp hdpb hdps hnz hn1
    obtain ⟨n, D', e, rfl, HL, HAT, hk, hg, he0, HDP⟩ := hrel
    have hle := la_le HL.out
    have p0 := (HT.out wr hk).pw
    have hcp := DecAt.cdp HAT.out
    have HPC : Hid (∀ i, i < 9 → wr.cell? ⟨pb, pbo + i, none⟩ = some (.int .i64 (pwt i : Int))) := (HT.out wr hk).pwc
    obtain ⟨dp, hdpe⟩ : ∃ dp, D'.dp = dp := ⟨_, rfl⟩
    rw [hdpe] at hcp
    rcases la_inv HL.out with ⟨hp, hD, he⟩ | ⟨m, D'', hm, hp, hN, hR, hbd, hrest⟩
    · subst hD he
      rw [hdpe] at hp
      have hpb : decide ((0 : Int) < dp) = false := decide_eq_false (by omega)
      clear HPC p0
      go_wp2_with fail
      go_loopg [6] (nB + 1) (fun gf v6 wr => ∃ (n : Nat) (D' : Dec) (e : Int), v6 = .int .i64 e ∧ Hid (LB n D' e D2 e2) ∧ Hid (At wr b D') ∧ Kp b w wr ∧ n < gf ∧ e ≤ 60000 ∧ Hid (D'.dp ≤ 1000))
      case atStart => exact ⟨nB, D', e, rfl, HB0, HAT, hk, by omega, by omega, by have := HDP.out; show _ ≤ _; omega⟩
      case round =>
        clear HAT HDP hcp hpb hk hg HB0 HL
        obtain ⟨n, D', e, rfl, HL, HAT, hk, hg, he0, HDP⟩ := hrel
        have hle := lb_le HL.out
        have p0 := (HT.out wr hk).pw
        have hcp := DecAt.cdp HAT.out
        have HPC : Hid (∀ i, i < 9 → wr.cell? ⟨pb, pbo + i, none⟩ = some (.int .i64 (pwt i : Int))) := (HT.out wr hk).pwc
        obtain ⟨dp, hdpe⟩ : ∃ dp, D'.dp = dp := ⟨_, rfl⟩
        rw [hdpe] at hcp
        have hcd := DecAt.cd HAT.out (i := 0) (by decide)
        obtain ⟨d0, hd0⟩ : ∃ d0, D'.d 0 = d0 := ⟨_, rfl⟩
        rw [hd0] at hcd
        rcases lb_inv HL.out with ⟨hp, hD, he⟩ | ⟨m, D'', hm, hp, hN, hlo, hR, hbd, hrest⟩
        · subst hD he
          have HNG : Hid (¬ (dp < 0 ∨ dp = 0 ∧ d0 < 53)) := by unfold goB at hp; rw [hdpe, hd0] at hp; exact hp
          have hdn : decide (dp < 0) = false := decide_eq_false (by have := HNG.out; omega)
          have hz : dp = 0 := by rw [← hdpe]; exact HZ2.out
          have hzb : (dp == 0) = true := by rw [beq_iff_eq]; exact hz
          have h53b : decide ((d0 : Int) < 53) = false := decide_eq_false (by have := HNG.out; omega)
          clear HPC p0 hp hz
          have f0 := (HT.out wr hk).f0
          have f1 := (HT.out wr hk).f1
          have f2 := (HT.out wr hk).f2
          have hcg := HNEG.out wr D' HAT.out
          obtain ⟨hlt, he4, hD3⟩ := HADJ.out
          subst hD3
          obtain ⟨x, hx⟩ : ∃ x : Nat, e = (x : Int) - 1022 := ⟨(e + 1022).toNat, by omega⟩
          subst hx
          have HE4 : Hid (e4 = (x : Int) - 1023) := by show _ = _; omega
          have hx1 : 1 ≤ x := by omega
          have hx2 : x ≤ 70000 := by omega
          have z1 : (x : Int) - 1022 - 1 = (x : Int) - 1023 := by omega
          have z2 : ¬ (x : Int) - 1023 < -1022 := by omega
          have z2b : decide ((x : Int) - 1023 < -1022) = false := decide_eq_false z2
          have z2c : decide ((x : Int) < 1) = false := decide_eq_false (by omega)
          clear hlt he4 HADJ HD2 hdpe hd0 HNG hle he0 hE hle1 hle2 HDP HL hg
          go_wp2_with fail
          by_cases hov : 2047 ≤ x
          · have hovz : (2047 : Int) ≤ (x : Int) := by omega
            have HRB : Hid ((9218868437227405312 : Nat) = RB) := by show _ = _; rw [← hRB.out, HE4.out, resB, if_pos (by omega)]; rfl
            have HRO : Hid (true = RO) := by show _ = _; rw [← hRO.out, HE4.out, resO, if_pos (by omega)]
            have b1 := bx1
            have b2 := bx2
            have b3 := bx3
            have x1 := wx1
            have x2 := wx2
            have x3 := wx3
            clear hRB hRO HL53 HRI HE4
            go_quiet (fail)
            go_wp2_with fail
            go_step3
            refine fwd_goto rfl ?_
            go_wp2_with fail
            go_quiet (fail)
            go_wp2_with fail
            go_step3
            go_wp2_with fail
            go_quiet (fail)
            go_wp2_with fail
            rw [Exit.noGoto_ret]
            go_ret2
            exact ⟨retF (a := 9218868437227405312) HRB.out HRO.out, hk.drewN _⟩
          · have hovb : decide ((2047 : Int) ≤ (x : Int)) = false := decide_eq_false (by omega)
            have HOV : Hid (¬ 2047 ≤ x) := hov
            go_quiet (fail)
            go_wp2_with fail
            go_at_call 50
            refine (HL53.out _ (hk.drewN _) (At.drewN HAT.out _)).mono ?_
            rintro e' w4 ⟨rfl, hA4, hK4⟩
            have hk4 : Kp b w w4 := ((hk.drewN _)).trans hK4
            have hcg := HNEG.out w4 D4 hA4
            have f0 := (HT.out w4 hk4).f0
            have f1 := (HT.out w4 hk4).f1
            have f2 := (HT.out w4 hk4).f2
            go_wp2_with fail
            go_at_call 51
            refine (HRI.out w4 hA4).mono ?_
            rintro e' w5 ⟨rfl, hw5⟩
            rw [hw5]
            clear hw5 HL53 HRI HNEG
            by_cases hM2 : M = 9007199254740992
            · subst hM2
              by_cases hov2 : 2046 ≤ x
              · have hov2z : (2046 : Int) ≤ (x : Int) := by omega
                have hov2y : (2047 : Int) ≤ (x : Int) + 1 := by omega
                have HRB : Hid ((9218868437227405312 : Nat) = RB) := by show _ = _; rw [← hRB.out, HE4.out, resB, if_neg (by have := HOV.out; omega), if_pos rfl, if_pos (by omega)]; rfl
                have HRO : Hid (true = RO) := by show _ = _; rw [← hRO.out, HE4.out, resO, if_neg (by have := HOV.out; omega), if_pos rfl, if_pos (by omega)]
                have b1 := bx1
                have b2 := bx2
                have b3 := bx3
                have x1 := wx1
                have x2 := wx2
                have x3 := wx3
                clear hRB hRO HE4 HOV
                go_wp2_with fail
                go_quiet (fail)
                go_wp2_with fail
                go_step3
                refine fwd_goto rfl ?_
                go_wp2_with fail
                go_quiet (fail)
                go_wp2_with fail
                go_step3
                go_wp2_with fail
                go_quiet (fail)
                go_wp2_with fail
                rw [Exit.noGoto_ret]
                go_ret2
                exact ⟨retF (a := 9218868437227405312) HRB.out HRO.out, hk4.drewN _⟩
              · have hov2b : decide ((2046 : Int) ≤ (x : Int)) = false := decide_eq_false (by omega)
                have hov2c : decide ((2047 : Int) ≤ (x : Int) + 1) = false := decide_eq_false (by omega)
                obtain ⟨y, hy⟩ : ∃ y, x + 1 = y := ⟨_, rfl⟩
                have HRB : Hid (y * 4503599627370496 = RB) := by
                  have h0 : 0 + y * 4503599627370496 = RB := by
                    rw [← hRB.out, HE4.out, resB, if_neg (by have := HOV.out; omega), if_pos rfl, if_neg (by omega)]
                    unfold fin
                    rw [if_neg (by decide), show ((x : Int) - 1023 + 1 + 1023).toNat = y by omega]
                  rw [Nat.zero_add] at h0
                  exact h0
                have HRO : Hid (false = RO) := by show _ = _; rw [← hRO.out, HE4.out, resO, if_neg (by have := HOV.out; omega), if_pos rfl, if_neg (by omega)]
                have a1 : bits .and .u64 4503599627370496 4503599627370496 = 4503599627370496 := by decide
                have a2 : bits .and .u64 4503599627370496 4503599627370495 = 0 := by decide
                have hxy : (x : Int) + 1 = (y : Int) := by omega
                have hxy2 : (x : Int) - 1023 + 1 + 1023 = (y : Int) := by omega
                have a3 : bits .and .i64 (y : Int) 2047 = (y : Int) := andx y (by have := HOV.out; omega)
                have a4 : IntKind.u64.wrap (y : Int) = (y : Int) := u64_id (by omega) (by have := HOV.out; omega)
                have a5 : IntKind.u64.wrap ((y : Int) * 4503599627370496) = (y : Int) * 4503599627370496 := u64_id (by omega) (by have := HOV.out; omega)
                have a6 : bits .or .u64 0 ((y : Int) * 4503599627370496) = ((0 + y * 4503599627370496 : Nat) : Int) := or52 0 y (by decide) (by have := HOV.out; omega)
                clear hRB hRO HE4 HOV
                go_wp2_with fail
                go_quiet (fail)
                go_wp2_with fail
                go_step3
                refine fwd_goto rfl ?_
                go_wp2_with fail
                go_quiet (fail)
                go_wp2_with fail
                rw [Exit.noGoto_ret]
                go_ret2
                exact ⟨retF HRB.out HRO.out, hk4.drewN _⟩
            · have hM2b : ((M : Int) == 9007199254740992) = false := by rw [beq_eq_false_iff_ne]; omega
              obtain ⟨ml, hml⟩ : ∃ ml, M % 4503599627370496 = ml := ⟨_, rfl⟩
              have hmlb : ml < 4503599627370496 := by rw [← hml]; exact Nat.mod_lt _ (by decide)
              have a2 : bits .and .u64 (M : Int) 4503599627370495 = (ml : Int) := by rw [low52 M hM64, hml]
              by_cases hbit : M / 4503599627370496 % 2 = 0
              · have a1 : bits .and .u64 (M : Int) 4503599627370496 = 0 := by rw [and52 M hM64, hbit]; rfl
                have HRB : Hid (ml + 0 * 4503599627370496 = RB) := by show _ = _; rw [← hRB.out, HE4.out, resB, if_neg (by have := HOV.out; omega), if_neg hM2]; unfold fin; rw [if_pos hbit, hml]
                have HRO : Hid (false = RO) := by show _ = _; rw [← hRO.out, HE4.out, resO, if_neg (by have := HOV.out; omega), if_neg hM2]
                have a3 := bx4
                have a6 : bits .or .u64 (ml : Int) 0 = ((ml + 0 * 4503599627370496 : Nat) : Int) := by have := or52 ml 0 hmlb (by decide); simpa using this
                have a7 : IntKind.u64.wrap 0 = 0 := by decide
                clear hRB hRO HE4 hml hbit hM2 HOV
                go_wp2_with fail
                go_step3
                refine fwd_goto rfl ?_
                go_wp2_with fail
                go_quiet (fail)
                go_wp2_with fail
                rw [Exit.noGoto_ret]
                go_ret2
                exact ⟨retF HRB.out HRO.out, hk4.drewN _⟩
              · have a1 : bits .and .u64 (M : Int) 4503599627370496 = 4503599627370496 := by rw [and52 M hM64, show M / 4503599627370496 % 2 = 1 by omega]; rfl
                have HRB : Hid (ml + x * 4503599627370496 = RB) := by show _ = _; rw [← hRB.out, HE4.out, resB, if_neg (by have := HOV.out; omega), if_neg hM2]; unfold fin; rw [if_neg hbit, hml, show (((x : Int) - 1023) + 1023).toNat = x by omega]
                have HRO : Hid (false = RO) := by show _ = _; rw [← hRO.out, HE4.out, resO, if_neg (by have := HOV.out; omega), if_neg hM2]
                have a3 : bits .and .i64 (x : Nat) 2047 = ((x : Nat) : Int) := andx x (by have := HOV.out; omega)
                have a4 : IntKind.u64.wrap ((x : Nat) : Int) = ((x : Nat) : Int) := u64_id (by omega) (by have := HOV.out; omega)
                have a5 : IntKind.u64.wrap (((x : Nat) : Int) * 4503599627370496) = ((x : Nat) : Int) * 4503599627370496 := u64_id (by omega) (by have := HOV.out; omega)
                have a6 : bits .or .u64 (ml : Int) (((x : Nat) : Int) * 4503599627370496) = ((ml + x * 4503599627370496 : Nat) : Int) := or52 ml x hmlb (by have := HOV.out; omega)
                clear hRB hRO HE4 hml hbit hM2 HOV
                go_wp2_with fail
                go_step3
                refine fwd_goto rfl ?_
                go_wp2_with fail
                go_quiet (fail)
                go_wp2_with fail
                rw [Exit.noGoto_ret]
                go_ret2
                exact ⟨retF HRB.out HRO.out, hk4.drewN _⟩
        · unfold goB at hp
          rw [hdpe, hd0] at hp
          have hle' := lb_le hrest
          rw [hdpe] at hR hrest hle' hlo
          have HBD : Hid (D''.dp ≤ 1000) := by show _ ≤ _; omega
          have hdb : -1000000 ≤ D'.dp ∧ D'.dp ≤ 1000000 := by omega
          by_cases h9 : 9 ≤ -dp
          · have hpw : pw (-dp) = 27 := by unfold pw; rw [if_pos h9]
            rw [hpw] at hR hrest hle'
            have hcall : ∀ W, Kp b w W → At W b D' → Calls Tryd.prog 50 #[.pointer (some ⟨b, 0, none⟩), .int .i64 27] W fun e w' => e = .returned (.tuple #[]) ∧ At w' b D'' ∧ Kp b W w' := fun W hkW hW => shl_call (k := 27) (by decide) (by decide) hR hN hdb HBB.out W (HT.out W hkW) hW
            have HREST : Hid (LB m D'' (e - 27) D2 e2) := hrest
            have hdneg : dp < 0 := by omega
            clear HL hR hrest hbd hN hp hdb hpw HPC HDP hdpe hcd hd0
            go_wp2_with fail
            go_quiet (fail)
            go_wp2_with fail
            go_at_call 50
            refine (hcall _ (hk.drewN _) (At.drewN HAT.out _)).mono ?_
            rintro e' w' ⟨rfl, hA', hK'⟩
            go_wp2_with fail
            go_roundg (gk - 1)
            case measure => omega
            case rel => exact ⟨m, D'', e - 27, by go_num, HREST, hA', (hk.drewN _).trans hK', by omega, by omega, HBD⟩
          · obtain ⟨i, hi, hie, hpw⟩ := pw_lt (x := -dp) (by omega) h9
            have hq := pw_cases (x := -dp) (by omega)
            rw [hpw] at hR hrest hle' hq
            have hcell := HPC.out i hi
            obtain ⟨q, hqe⟩ : ∃ q, pwt i = q := ⟨_, rfl⟩
            rw [hqe] at hR hrest hle' hcell hq
            have hcall : ∀ W, Kp b w W → At W b D' → Calls Tryd.prog 50 #[.pointer (some ⟨b, 0, none⟩), .int .i64 (q : Int)] W fun e w' => e = .returned (.tuple #[]) ∧ At w' b D'' ∧ Kp b W w' := fun W hkW hW => shl_call (k := q) (by omega) (by omega) hR hN hdb HBB.out W (HT.out W hkW) hW
            have HREST : Hid (LB m D'' (e - q) D2 e2) := hrest
            have hq27 : q ≤ 27 := by omega
            have hi9 : (i : Int) < 9 := by omega
            have h9b : decide ((9 : Int) ≤ (i : Int)) = false := decide_eq_false (by omega)
            have wi : IntKind.i64.wrap (i : Int) = (i : Int) := wrap_small _ (by omega) (by omega)
            cases i with
            | zero =>
              obtain rfl : dp = 0 := by omega
              rw [Nat.add_zero] at hcell
              have h53 : (d0 : Int) < 53 := by omega
              clear HL hR hrest hbd hN hp hdb hpw HPC HDP hdpe hq hqe h9 hd0 hie
              go_wp2_with fail
              go_quiet (fail)
              go_wp2_with fail
              go_quiet (fail)
              go_wp2_with fail
              go_at_call 50
              refine (hcall _ (hk.drewN _) (At.drewN HAT.out _)).mono ?_
              rintro e' w' ⟨rfl, hA', hK'⟩
              go_wp2_with fail
              go_roundg (gk - 1)
              case measure => omega
              case rel => exact ⟨m, D'', e - q, by go_num, HREST, hA', (hk.drewN _).trans hK', by omega, by omega, HBD⟩
            | succ i =>
              have hdneg : dp < 0 := by omega
              have hie' : -dp = ((i + 1 : Nat) : Int) := hie
              clear HL hR hrest hbd hN hp hdb hpw HPC HDP hdpe hq hqe h9 hd0 hcd hie
              go_wp2_with fail
              go_quiet (fail)
              go_wp2_with fail
              go_quiet (fail)
              go_wp2_with fail
              go_at_call 50
              refine (hcall _ (hk.drewN _) (At.drewN HAT.out _)).mono ?_
              rintro e' w' ⟨rfl, hA', hK'⟩
              go_wp2_with fail
              go_roundg (gk - 1)
              case measure => omega
              case rel => exact ⟨m, D'', e - q, by go_num, HREST, hA', (hk.drewN _).trans hK', by omega, by omega, HBD⟩
    · have hpz : 0 < dp := by rw [← hdpe]; exact hp
      have hle' := la_le hrest
      rw [hdpe] at hR hrest hle' hp
      have HBD : Hid (-400 ≤ D''.dp ∧ D''.dp ≤ 310) := by have := HDP.out; show _ ∧ _; omega
      have hdb : -100000 ≤ D'.dp ∧ D'.dp ≤ 100000 := by have := HDP.out; omega
      by_cases h9 : 9 ≤ dp
      · have hpw : pw dp = 27 := by unfold pw; rw [if_pos h9]
        rw [hpw] at hR hrest hle'
        have hcall : ∀ W, At W b D' → Calls Tryd.prog 50 #[.pointer (some ⟨b, 0, none⟩), .int .i64 (-27)] W fun e w' => e = .returned (.tuple #[]) ∧ At w' b D'' ∧ Kp b W w' := fun W hW => shr_walk (n := 27) (by decide) (by decide) (sr_of_rs (by decide) hN hR) hdb b W hW
        have HREST : Hid (LA m D'' (e + 27) D1 e1) := hrest
        clear HL hR hrest hbd hN hp hdb hpw HPC HDP hdpe
        go_wp2_with fail
        go_quiet (fail)
        go_wp2_with fail
        go_at_call 50
        refine (hcall _ (At.drewN HAT.out _)).mono ?_
        rintro e' w' ⟨rfl, hA', hK'⟩
        go_wp2_with fail
        go_roundg (gk - 1)
        case measure => omega
        case rel => exact ⟨m, D'', e + 27, by go_num, HREST, hA', (hk.drewN _).trans hK', by omega, by omega, HBD⟩
      · obtain ⟨i, hi, hie, hpw⟩ := pw_lt (by omega) h9
        have hq := pw_cases (x := dp) (by omega)
        rw [hpw] at hR hrest hle' hq
        have hcell := HPC.out i hi
        obtain ⟨q, hqe⟩ : ∃ q, pwt i = q := ⟨_, rfl⟩
        rw [hqe] at hR hrest hle' hcell hq
        have hcall : ∀ W, At W b D' → Calls Tryd.prog 50 #[.pointer (some ⟨b, 0, none⟩), .int .i64 (-(q : Int))] W fun e w' => e = .returned (.tuple #[]) ∧ At w' b D'' ∧ Kp b W w' := fun W hW => shr_walk (n := q) (by omega) (by omega) (sr_of_rs (by omega) hN hR) hdb b W hW
        have HREST : Hid (LA m D'' (e + q) D1 e1) := hrest
        have hq27 : q ≤ 27 := by omega
        subst hie
        have hi9 : (i : Int) < 9 := by omega
        have h9b : decide ((9 : Int) ≤ (i : Int)) = false := decide_eq_false (by omega)
        clear HL hR hrest hbd hN hp hdb hpw HPC HDP hdpe hq hqe h9
        go_wp2_with fail
        go_quiet (fail)
        go_wp2_with fail
        go_quiet (fail)
        go_wp2_with fail
        go_at_call 50
        refine (hcall _ (At.drewN HAT.out _)).mono ?_
        rintro e' w' ⟨rfl, hA', hK'⟩
        go_wp2_with fail
        go_roundg (gk - 1)
        case measure => omega
        case rel => exact ⟨m, D'', e + q, by go_num, HREST, hA', (hk.drewN _).trans hK', by omega, by omega, HBD⟩
end Go.Proofs.Qxb6608627aDoor
