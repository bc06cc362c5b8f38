import Derived.Test.Qxb6608627aDoorRightPlain
import Derived.Laws.Bits64b
namespace Go.Proofs.Qxb6608627aDoor
open Go.RowKit

theorem u64_id {z : Int} (h0 : 0 ≤ z) (h1 : z < 18446744073709551616) : IntKind.u64.wrap z = z := by rw [IntKind.wrap_u64]; omega
theorem and_mask (n K k : Nat) (hK : K = 2 ^ k) (hKp : 0 < K) (hn : n < 18446744073709551616) (hKb : K ≤ 1152921504606846976) : bits .and .u64 (n : Int) ((K : Int) - 1) = ((n % K : Nat) : Int) := by
  rw [show ((K : Int) - 1) = ((K - 1 : Nat) : Int) by omega, bits_and_u64_nat _ _ hn (by omega), hK, Nat.and_two_pow_sub_one_eq_mod]

theorem rtr_low {tr : Bool} {d : Nat → Nat} {nd R0 K : Nat} : ∀ {j : Nat}, j ≤ 800 → rtr tr d nd R0 K j = tr
  | 0, _ => rfl
  | j + 1, h => by rw [rtr, rtr_low (by omega), decide_eq_false (by omega), Bool.false_and, Bool.or_false]

set_option maxRecDepth 100000 in
set_option maxHeartbeats 16000000 in
theorem right_walk (b k : Nat) (d : Nat → Nat) (nd : Nat) (dp : Int) (tr : Bool) (w : World) (h : DecAt w b d nd dp tr) (hN : Norm d nd) (hk : k ≤ 60)
    (K R0 J : Nat) (hK : Hid (K = 2 ^ k)) (hF : Hid (Fst d nd K R0)) (hL : Hid (Lst d nd K R0 J)) (N : Nat) (hNN : Hid (trimN (rd d nd R0 K J) (min J 800) = N)) (hdp : -1000000 ≤ dp ∧ dp ≤ 1000000) :
    Calls Tryd.prog 56 #[.pointer (some ⟨b, 0, none⟩), .int .u64 (k : Int)] w fun e w' => e = .returned (.tuple #[]) ∧ DecAt w' b (rd d nd R0 K J) N (dp - ((R0 : Int) - 1)) (rtr tr d nd R0 K J) ∧ Kp b w w' := by
  have hKp : 0 < K := by rw [hK.out]; exact Nat.pow_pos (by decide)
  have hKb : K ≤ 1152921504606846976 := by
    have h2 : 2 ^ k ≤ 2 ^ 60 := Nat.pow_le_pow_right (by decide) hk
    have h3 : (2 : Nat) ^ 60 = 1152921504606846976 := by decide
    rw [hK.out]
    omega
  have hKz : ((2 : Int) ^ k) = (K : Int) := by rw [hK.out]; push_cast; rfl
  have hkz : (k : Int) ≤ 60 := by omega
  have hndz : (nd : Int) ≤ 800 := by have := hN.le; omega
  have hndl := hN.le
  have hndp := hN.pos
  have hR0p := hF.out.pos
  have hR0l := hF.out.le
  have wK : IntKind.u64.wrap (K : Int) = (K : Int) := u64_id (by omega) (by omega)
  have wK1 : IntKind.u64.wrap ((K : Int) - 1) = (K : Int) - 1 := u64_id (by omega) (by omega)
  go_enter Tryd.func56, Tryd.ntmps56
  go_wp2_with fail
  go_loopg [4, 6] (nd + 1) (fun gf v4 v6 wr => ∃ (r n : Nat), r ≤ nd ∧ r ≤ R0 ∧ v4 = .int .i64 (r : Int) ∧ v6 = .int .u64 (n : Int) ∧ Hid (n = zv d nd r) ∧ DecAt wr b d nd dp tr ∧ Kp b w wr ∧ nd < gf + r)
  case atStart => exact ⟨0, 0, Nat.zero_le _, Nat.zero_le _, rfl, rfl, rfl, h, Kp.refl _ _, by omega⟩
  case round =>
    clear h
    obtain ⟨r, n, hr, hrR, rfl, rfl, HN, hdw, hkw, hg⟩ := hrel
    have hcn := hdw.cnd
    by_cases hrR' : r < R0
    · have hnK : n < K := by rw [HN.out]; exact hF.out.lt r hrR'
      have hsh : (n : Int) / (K : Int) = 0 := Int.ediv_eq_zero_of_lt (by omega) (by omega)
      by_cases hrn : r < nd
      · have hrnz : ¬ (nd : Int) ≤ (r : Int) := by omega
        have hrnb : decide ((nd : Int) ≤ (r : Int)) = false := decide_eq_false hrnz
        have hr8 : r < 800 := by omega
        have hrz8 : (r : Int) < 800 := by omega
        have hcell := hdw.cd hr8
        obtain ⟨dr, hdr⟩ : ∃ dr, d r = dr := ⟨_, rfl⟩
        rw [hdr] at hcell
        have hd48 : 48 ≤ dr ∧ dr ≤ 57 := by rw [← hdr]; exact hN.dig r hrn
        obtain ⟨X, hX⟩ : ∃ X, n * 10 + (dr - 48) = X := ⟨_, rfl⟩
        have HX : Hid (X = zv d nd (r + 1)) := by show _ = _; rw [← hX, zv, ← HN.out, dg_in hrn, hdr]
        have w1 : IntKind.u64.wrap ((n : Int) * 10) = (n : Int) * 10 := u64_id (by omega) (by omega)
        have w2 : IntKind.u64.wrap ((n : Int) * 10 + (dr : Int)) = (n : Int) * 10 + (dr : Int) := u64_id (by omega) (by omega)
        have w3 : IntKind.u64.wrap ((n : Int) * 10 + (dr : Int) - 48) = (X : Int) := u64_of (by omega) (by omega)
        clear hX hdr HN hKb hKp hNN hN hF hL hdp hK
        go_wp2_with fail
        go_roundg (gk - 1)
        case measure => omega
        case rel => exact ⟨r + 1, X, by omega, by omega, by go_num, rfl, HX, hdw, hkw, by omega⟩
      · have hrn' : r = nd := by omega
        have hrnz : (nd : Int) ≤ (r : Int) := by omega
        have hn1 : 1 ≤ n := by rw [HN.out, hrn']; exact zv_pos hN
        have hn0 : ((n : Int) == 0) = false := by rw [beq_eq_false_iff_ne]; omega
        go_wp2_with fail
        go_loopg [4, 6] (R0 + 1) (fun gf v4 v6 wr => ∃ (r n : Nat), nd ≤ r ∧ r ≤ R0 ∧ v4 = .int .i64 (r : Int) ∧ v6 = .int .u64 (n : Int) ∧ Hid (n = zv d nd r) ∧ DecAt wr b d nd dp tr ∧ Kp b w wr ∧ R0 < gf + r)
        case atStart => exact ⟨r, n, by omega, hrR, rfl, rfl, HN, hdw, hkw, by omega⟩
        case round =>
          clear hr hrR HN hdw hkw hg hcn hrR' hnK hsh hrn hrn' hrnz hn1 hn0
          obtain ⟨r, n, hr, hrR, rfl, rfl, HN, hdw, hkw, hg⟩ := hrel
          have hcn := hdw.cnd
          by_cases hrR' : r < R0
          · have hnK : n < K := by rw [HN.out]; exact hF.out.lt r hrR'
            have hsh : (n : Int) / (K : Int) = 0 := Int.ediv_eq_zero_of_lt (by omega) (by omega)
            have w1 : IntKind.u64.wrap ((n : Int) * 10) = (n : Int) * 10 := u64_id (by omega) (by omega)
            have HX : Hid (n * 10 = zv d nd (r + 1)) := by show _ = _; rw [zv, ← HN.out, dg_out (by omega)]; rfl
            clear HN hKb hKp hNN hN hF hL hdp hK
            go_wp2_with fail
            go_roundg (gk - 1)
            case measure => omega
            case rel => exact ⟨r + 1, n * 10, by omega, by omega, by go_num, by go_num, HX, hdw, hkw, by omega⟩
          · have hrE : R0 = r := by omega
            subst hrE
            have hnK : K ≤ n := by rw [HN.out]; exact hF.out.ge
            have hsh : ((n : Int) / (K : Int) == 0) = false := by
              rw [beq_eq_false_iff_ne]
              have h1 : 0 < n / K := Nat.div_pos hnK hKp
              have h2 : (n : Int) / (K : Int) = ((n / K : Nat) : Int) := (Int.natCast_ediv n K).symm
              rw [h2]
              omega
            have hcp := hdw.cdp
            have hfp := hdw.fr 801
            go_wp2_with fail
            generalize hW2 : World.setCell _ _ _ = w2
            have hd2 : DecAt w2 b d nd (dp - ((R0 : Int) - 1)) tr := by rw [← hW2]; exact hdw.toDp _ _ (by first | rfl | omega | go_num)
            have hk2 : Kp b w w2 := by rw [← hW2]; exact hkw.setCell rfl _
            clear hW2 hdw hkw hcp hfp hcn
            obtain ⟨dq, hdq⟩ : ∃ dq, dp - ((R0 : Int) - 1) = dq := ⟨_, rfl⟩
            rw [hdq] at hd2
            have HDQ : Hid (dp - ((R0 : Int) - 1) = dq) := hdq
            clear hdq
            go_loopg [4, 5, 6] (nd + 1) (fun gf v4 v5 v6 wr => ∃ (j n r : Nat), v4 = .int .i64 (r : Int) ∧ v5 = .int .i64 (j : Int) ∧ v6 = .int .u64 (n : Int) ∧ Hid (r = R0 + j) ∧ Hid (n = nn d nd R0 K j) ∧ j ≤ nd - R0 ∧ DecAt wr b (rd d nd R0 K j) nd dq tr ∧ Kp b w wr ∧ nd < gf + j)
            case atStart => exact ⟨0, n, R0, rfl, rfl, rfl, rfl, HN, Nat.zero_le _, by rw [rd_zero]; exact hd2, hk2, by omega⟩
            case round =>
              clear hd2 hk2 HN hg hsh hnK
              obtain ⟨j, n, r, rfl, rfl, rfl, HR, HN, hj, hdw, hkw, hg⟩ := hrel
              have hcn := hdw.cnd
              have hnb : n < 10 * K := by rw [HN.out]; exact nn_lt hN.dig hF.out hKp j
              by_cases hrn : r < nd
              · have hrnz : (r : Int) < (nd : Int) := by omega
                have hr8 : r < 800 := by omega
                have hrz8 : (r : Int) < 800 := by omega
                have hcell := hdw.cd hr8
                rw [rd_high (by have := HR.out; omega)] at hcell
                obtain ⟨dr, hdr⟩ : ∃ dr, d r = dr := ⟨_, rfl⟩
                rw [hdr] at hcell
                have hd48 : 48 ≤ dr ∧ dr ≤ 57 := by rw [← hdr]; exact hN.dig r hrn
                have hjz : (j : Int) < 800 := by have := HR.out; omega
                have hj8 : j < 800 := by omega
                have HJN : Hid (j + 1 ≤ nd - R0) := by have := HR.out; show _ ≤ _; omega
                have hcj := hdw.cd hj8
                have hfj := hdw.fr j
                obtain ⟨q, hq⟩ : ∃ q, n / K = q := ⟨_, rfl⟩
                obtain ⟨m, hm⟩ : ∃ m, n % K = m := ⟨_, rfl⟩
                obtain ⟨X, hX⟩ : ∃ X, m * 10 + (dr - 48) = X := ⟨_, rfl⟩
                have hmK : m < K := by rw [← hm]; exact Nat.mod_lt _ hKp
                have hq9 : q ≤ 9 := by rw [← hq]; exact Nat.le_of_lt_succ ((Nat.div_lt_iff_lt_mul hKp).2 hnb)
                have HX : Hid (X = nn d nd R0 K (j + 1)) := by show _ = _; rw [← hX, nn, ← HN.out, hm, dg_in (by rw [← HR.out]; exact hrn), ← HR.out, hdr]
                have HQ : Hid (48 + nn d nd R0 K j / K = q + 48) := by show _ = _; rw [← hq, HN.out, Nat.add_comm]
                have hdiv : (n : Int) / (K : Int) = (q : Int) := by rw [← hq]; exact (Int.natCast_ediv n K).symm
                have hand : bits .and .u64 (n : Int) ((K : Int) - 1) = (m : Int) := by rw [← hm]; exact and_mask n K k hK.out hKp (by omega) hKb
                have w1 : IntKind.u64.wrap ((m : Int) * 10) = (m : Int) * 10 := u64_id (by omega) (by omega)
                have w2 : IntKind.u64.wrap ((m : Int) * 10 + (dr : Int)) = (m : Int) * 10 + (dr : Int) := u64_id (by omega) (by omega)
                have w3 : IntKind.u64.wrap ((m : Int) * 10 + (dr : Int) - 48) = (X : Int) := u64_of (by omega) (by omega)
                have w6 : IntKind.u64.wrap ((q : Int) + 48) = (q : Int) + 48 := u64_id (by omega) (by omega)
                have w7 : IntKind.u8.wrap ((q : Int) + 48) = (q : Int) + 48 := u8_of (n := q + 48) (by omega) (by omega)
                have HRR : Hid (r + 1 = R0 + (j + 1)) := by have := HR.out; show _ = _; omega
                clear hX hdr HN hq hm hnb hmK HR hKb hNN hN hF hL hdp hK
                go_wp2_with fail
                go_roundg (gk - 1)
                case measure => omega
                case rel =>
                  refine ⟨j + 1, X, r + 1, by go_num, by go_num, rfl, HRR, HX, HJN.out, ?_, hkw.setCell rfl _, by omega⟩
                  rw [← rd_put hj8, HQ.out]
                  exact hdw.setD hj8 _ _ (by go_num)
              · have hrnz : ¬ (r : Int) < (nd : Int) := by omega
                have hrnb : decide ((r : Int) < (nd : Int)) = false := decide_eq_false hrnz
                have HJ0 : Hid (j = nd - R0) := by have := HR.out; show _ = _; omega
                have hJl := hL.out.le
                have HJJ : Hid (j ≤ J) := by have := hL.out.from_; have := HJ0.out; show _ ≤ _; omega
                have hj8 : j ≤ 800 := by omega
                have HRT : Hid (rtr tr d nd R0 K j = tr) := rtr_low (by omega)
                clear HR hg
                go_wp2_with fail
                go_loopg [5, 6] (J + 1) (fun gf v5 v6 wr => ∃ (i n x : Nat), v5 = .int .i64 (x : Int) ∧ v6 = .int .u64 (n : Int) ∧ Hid (x = min i 800) ∧ x ≤ 800 ∧ Hid (n = nn d nd R0 K i) ∧ Hid (j ≤ i) ∧ i ≤ J ∧ DecAt wr b (rd d nd R0 K i) nd dq (rtr tr d nd R0 K i) ∧ Kp b w wr ∧ J < gf + i)
                case atStart => exact ⟨j, n, j, rfl, rfl, (by show _ = _; omega), hj8, HN, Nat.le_refl _, HJJ.out, by rw [HRT.out]; exact hdw, hkw, by omega⟩
                case round =>
                  clear HN hnb hdw hkw hcn hrn hrnz hrnb HRT HJJ hj8
                  obtain ⟨i, n, x, rfl, rfl, HX, hx8, HN, HJI, hi, hdw, hkw, hg⟩ := hrel
                  by_cases hiJ : i = J
                  · have hn0 : n = 0 := by rw [HN.out, hiJ]; exact hL.out.zero
                    have HNX : Hid (trimN (rd d nd R0 K J) x = N) := by show _ = _; rw [← hNN.out, HX.out, hiJ]
                    subst hn0
                    have hdJ : DecAt wr b (rd d nd R0 K J) nd dq (rtr tr d nd R0 K J) := by rw [hiJ] at hdw; exact hdw
                    have HNZ : Hid (dq = if N = 0 then 0 else dq) := by
                      have h1 := (right_norm hN hF.out hL.out hKp).1.pos
                      rw [hNN.out] at h1
                      show _ = _
                      rw [if_neg (by omega)]
                    have hfn := hdJ.fr 800
                    have hcn := hdJ.cnd
                    clear hdw HN HX HJI hi hg hNN hN hF hL hdp hK hKb hiJ
                    go_wp2_with fail
                    go_at_call 63
                    refine (trim_walk b (rd d nd R0 K J) x dq (rtr tr d nd R0 K J) _ (hdJ.toNd _ _ rfl) hx8 N HNX _ HNZ).mono ?_
                    rintro e w' ⟨rfl, hd', hk'⟩
                    go_wp2
                    go_end0
                    exact ⟨rfl, by rw [HDQ.out]; exact hd', (hkw.setCell rfl _).trans hk'⟩
                  · have hn0 : n ≠ 0 := by rw [HN.out]; exact hL.out.ne i (by have := HJ0.out; have := HJI.out; omega) (by omega)
                    have hnz : (0 : Int) < (n : Int) := by omega
                    have hnb : n < 10 * K := by rw [HN.out]; exact nn_lt hN.dig hF.out hKp i
                    obtain ⟨q, hq⟩ : ∃ q, n / K = q := ⟨_, rfl⟩
                    obtain ⟨m, hm⟩ : ∃ m, n % K = m := ⟨_, rfl⟩
                    obtain ⟨X, hX⟩ : ∃ X, m * 10 = X := ⟨_, rfl⟩
                    have hmK : m < K := by rw [← hm]; exact Nat.mod_lt _ hKp
                    have hq9 : q ≤ 9 := by rw [← hq]; exact Nat.le_of_lt_succ ((Nat.div_lt_iff_lt_mul hKp).2 hnb)
                    have HX' : Hid (X = nn d nd R0 K (i + 1)) := by show _ = _; rw [← hX, nn, ← HN.out, hm, dg_out (by have := HJ0.out; have := HJI.out; omega)]; rfl
                    have HQ : Hid (nn d nd R0 K i / K = q) := by show _ = _; rw [← hq, HN.out]
                    have hdiv : (n : Int) / (K : Int) = (q : Int) := by rw [← hq]; exact (Int.natCast_ediv n K).symm
                    have hand : bits .and .u64 (n : Int) ((K : Int) - 1) = (m : Int) := by rw [← hm]; exact and_mask n K k hK.out hKp (by omega) hKb
                    have w1 : IntKind.u64.wrap ((m : Int) * 10) = (X : Int) := u64_of (by omega) (by omega)
                    have w6 : IntKind.u64.wrap ((q : Int) + 48) = (q : Int) + 48 := u64_id (by omega) (by omega)
                    have w7 : IntKind.u8.wrap ((q : Int) + 48) = (q : Int) + 48 := u8_of (n := q + 48) (by omega) (by omega)
                    have HJI' : Hid (j ≤ i + 1) := by have := HJI.out; show _ ≤ _; omega
                    have hiJ' : i + 1 ≤ J := by omega
                    clear hX HN hq hm hnb hmK hKb hNN hN hF hL hdp hK HJI HJ0 hiJ hn0
                    by_cases hx : x < 800
                    · have hxz : (x : Int) < 800 := by omega
                      have HXI : Hid (x = i) := by have := HX.out; show _ = _; omega
                      have HXN : Hid (x + 1 = min (i + 1) 800) := by have := HXI.out; show _ = _; omega
                      have hcx := hdw.cd hx
                      have hfx := hdw.fr x
                      clear HX
                      go_wp2_with fail
                      go_roundg (gk - 1)
                      case measure => omega
                      case rel =>
                        refine ⟨i + 1, X, x + 1, by go_num, rfl, HXN, by omega, HX', HJI', hiJ', ?_, hkw.setCell rfl _, by omega⟩
                        rw [← rd_put (by rw [← HXI.out]; exact hx), HQ.out, show rtr tr d nd R0 K (i + 1) = rtr tr d nd R0 K i from by rw [rtr, decide_eq_false (by rw [← HXI.out]; omega), Bool.false_and, Bool.or_false], Nat.add_comm 48, ← HXI.out]
                        have hh := hdw.setD hx (q + 48) ((q : Int) + 48) (by go_num)
                        rw [← HXI.out] at hh
                        exact hh
                    · have hxb : decide ((x : Int) < 800) = false := decide_eq_false (by omega)
                      have HXI : Hid (¬ i < 800) := by have := HX.out; show ¬ _ ; omega
                      have HXN : Hid (x = min (i + 1) 800) := by have := HX.out; have := HXI.out; show _ = _; omega
                      clear HX hx
                      by_cases hq0 : q = 0
                      · subst hq0
                        go_wp2_with fail
                        go_roundg (gk - 1)
                        case measure => omega
                        case rel =>
                          refine ⟨i + 1, X, x, rfl, rfl, HXN, by omega, HX', HJI', hiJ', ?_, hkw, by omega⟩
                          rw [← rd_far HXI.out, show rtr tr d nd R0 K (i + 1) = rtr tr d nd R0 K i from by rw [rtr, HQ.out]; simp]
                          exact hdw
                      · have hqz : (0 : Int) < (q : Int) := by omega
                        have hft := hdw.fr 803
                        have hct := hdw.ctr
                        have HQ0 : Hid (0 < q) := by show 0 < q; omega
                        go_wp2_with fail
                        go_roundg (gk - 1)
                        case measure => omega
                        case rel =>
                          refine ⟨i + 1, X, x, rfl, rfl, HXN, by omega, HX', HJI', hiJ', ?_, hkw.setCell rfl _, by omega⟩
                          rw [← rd_far HXI.out, show rtr tr d nd R0 K (i + 1) = true from by rw [rtr, HQ.out, decide_eq_true HQ0.out, decide_eq_true (by have := HXI.out; omega)]; simp]
                          exact hdw.setTr true
    · have hrE : R0 = r := by omega
      subst hrE
      have hnK : K ≤ n := by rw [HN.out]; exact hF.out.ge
      have hsh : ((n : Int) / (K : Int) == 0) = false := by
        rw [beq_eq_false_iff_ne]
        have h1 : 0 < n / K := Nat.div_pos hnK hKp
        have h2 : (n : Int) / (K : Int) = ((n / K : Nat) : Int) := (Int.natCast_ediv n K).symm
        rw [h2]
        omega
      have hcp := hdw.cdp
      have hfp := hdw.fr 801
      go_wp2_with fail
      generalize hW2 : World.setCell _ _ _ = w2
      have hd2 : DecAt w2 b d nd (dp - ((R0 : Int) - 1)) tr := by rw [← hW2]; exact hdw.toDp _ _ (by first | rfl | omega | go_num)
      have hk2 : Kp b w w2 := by rw [← hW2]; exact hkw.setCell rfl _
      clear hW2 hdw hkw hcp hfp hcn
      obtain ⟨dq, hdq⟩ : ∃ dq, dp - ((R0 : Int) - 1) = dq := ⟨_, rfl⟩
      rw [hdq] at hd2
      have HDQ : Hid (dp - ((R0 : Int) - 1) = dq) := hdq
      clear hdq
      go_loopg [4, 5, 6] (nd + 1) (fun gf v4 v5 v6 wr => ∃ (j n r : Nat), v4 = .int .i64 (r : Int) ∧ v5 = .int .i64 (j : Int) ∧ v6 = .int .u64 (n : Int) ∧ Hid (r = R0 + j) ∧ Hid (n = nn d nd R0 K j) ∧ j ≤ nd - R0 ∧ DecAt wr b (rd d nd R0 K j) nd dq tr ∧ Kp b w wr ∧ nd < gf + j)
      case atStart => exact ⟨0, n, R0, rfl, rfl, rfl, rfl, HN, Nat.zero_le _, by rw [rd_zero]; exact hd2, hk2, by omega⟩
      case round =>
        clear hd2 hk2 HN hg hsh hnK
        obtain ⟨j, n, r, rfl, rfl, rfl, HR, HN, hj, hdw, hkw, hg⟩ := hrel
        have hcn := hdw.cnd
        have hnb : n < 10 * K := by rw [HN.out]; exact nn_lt hN.dig hF.out hKp j
        by_cases hrn : r < nd
        · have hrnz : (r : Int) < (nd : Int) := by omega
          have hr8 : r < 800 := by omega
          have hrz8 : (r : Int) < 800 := by omega
          have hcell := hdw.cd hr8
          rw [rd_high (by have := HR.out; omega)] at hcell
          obtain ⟨dr, hdr⟩ : ∃ dr, d r = dr := ⟨_, rfl⟩
          rw [hdr] at hcell
          have hd48 : 48 ≤ dr ∧ dr ≤ 57 := by rw [← hdr]; exact hN.dig r hrn
          have hjz : (j : Int) < 800 := by have := HR.out; omega
          have hj8 : j < 800 := by omega
          have HJN : Hid (j + 1 ≤ nd - R0) := by have := HR.out; show _ ≤ _; omega
          have hcj := hdw.cd hj8
          have hfj := hdw.fr j
          obtain ⟨q, hq⟩ : ∃ q, n / K = q := ⟨_, rfl⟩
          obtain ⟨m, hm⟩ : ∃ m, n % K = m := ⟨_, rfl⟩
          obtain ⟨X, hX⟩ : ∃ X, m * 10 + (dr - 48) = X := ⟨_, rfl⟩
          have hmK : m < K := by rw [← hm]; exact Nat.mod_lt _ hKp
          have hq9 : q ≤ 9 := by rw [← hq]; exact Nat.le_of_lt_succ ((Nat.div_lt_iff_lt_mul hKp).2 hnb)
          have HX : Hid (X = nn d nd R0 K (j + 1)) := by show _ = _; rw [← hX, nn, ← HN.out, hm, dg_in (by rw [← HR.out]; exact hrn), ← HR.out, hdr]
          have HQ : Hid (48 + nn d nd R0 K j / K = q + 48) := by show _ = _; rw [← hq, HN.out, Nat.add_comm]
          have hdiv : (n : Int) / (K : Int) = (q : Int) := by rw [← hq]; exact (Int.natCast_ediv n K).symm
          have hand : bits .and .u64 (n : Int) ((K : Int) - 1) = (m : Int) := by rw [← hm]; exact and_mask n K k hK.out hKp (by omega) hKb
          have w1 : IntKind.u64.wrap ((m : Int) * 10) = (m : Int) * 10 := u64_id (by omega) (by omega)
          have w2 : IntKind.u64.wrap ((m : Int) * 10 + (dr : Int)) = (m : Int) * 10 + (dr : Int) := u64_id (by omega) (by omega)
          have w3 : IntKind.u64.wrap ((m : Int) * 10 + (dr : Int) - 48) = (X : Int) := u64_of (by omega) (by omega)
          have w6 : IntKind.u64.wrap ((q : Int) + 48) = (q : Int) + 48 := u64_id (by omega) (by omega)
          have w7 : IntKind.u8.wrap ((q : Int) + 48) = (q : Int) + 48 := u8_of (n := q + 48) (by omega) (by omega)
          have HRR : Hid (r + 1 = R0 + (j + 1)) := by have := HR.out; show _ = _; omega
          clear hX hdr HN hq hm hnb hmK HR hKb hNN hN hF hL hdp hK
          go_wp2_with fail
          go_roundg (gk - 1)
          case measure => omega
          case rel =>
            refine ⟨j + 1, X, r + 1, by go_num, by go_num, rfl, HRR, HX, HJN.out, ?_, hkw.setCell rfl _, by omega⟩
            rw [← rd_put hj8, HQ.out]
            exact hdw.setD hj8 _ _ (by go_num)
        · have hrnz : ¬ (r : Int) < (nd : Int) := by omega
          have hrnb : decide ((r : Int) < (nd : Int)) = false := decide_eq_false hrnz
          have HJ0 : Hid (j = nd - R0) := by have := HR.out; show _ = _; omega
          have hJl := hL.out.le
          have HJJ : Hid (j ≤ J) := by have := hL.out.from_; have := HJ0.out; show _ ≤ _; omega
          have hj8 : j ≤ 800 := by omega
          have HRT : Hid (rtr tr d nd R0 K j = tr) := rtr_low (by omega)
          clear HR hg
          go_wp2_with fail
          go_loopg [5, 6] (J + 1) (fun gf v5 v6 wr => ∃ (i n x : Nat), v5 = .int .i64 (x : Int) ∧ v6 = .int .u64 (n : Int) ∧ Hid (x = min i 800) ∧ x ≤ 800 ∧ Hid (n = nn d nd R0 K i) ∧ Hid (j ≤ i) ∧ i ≤ J ∧ DecAt wr b (rd d nd R0 K i) nd dq (rtr tr d nd R0 K i) ∧ Kp b w wr ∧ J < gf + i)
          case atStart => exact ⟨j, n, j, rfl, rfl, (by show _ = _; omega), hj8, HN, Nat.le_refl _, HJJ.out, by rw [HRT.out]; exact hdw, hkw, by omega⟩
          case round =>
            clear HN hnb hdw hkw hcn hrn hrnz hrnb HRT HJJ hj8
            obtain ⟨i, n, x, rfl, rfl, HX, hx8, HN, HJI, hi, hdw, hkw, hg⟩ := hrel
            by_cases hiJ : i = J
            · have hn0 : n = 0 := by rw [HN.out, hiJ]; exact hL.out.zero
              have HNX : Hid (trimN (rd d nd R0 K J) x = N) := by show _ = _; rw [← hNN.out, HX.out, hiJ]
              subst hn0
              have hdJ : DecAt wr b (rd d nd R0 K J) nd dq (rtr tr d nd R0 K J) := by rw [hiJ] at hdw; exact hdw
              have HNZ : Hid (dq = if N = 0 then 0 else dq) := by
                have h1 := (right_norm hN hF.out hL.out hKp).1.pos
                rw [hNN.out] at h1
                show _ = _
                rw [if_neg (by omega)]
              have hfn := hdJ.fr 800
              have hcn := hdJ.cnd
              clear hdw HN HX HJI hi hg hNN hN hF hL hdp hK hKb hiJ
              go_wp2_with fail
              go_at_call 63
              refine (trim_walk b (rd d nd R0 K J) x dq (rtr tr d nd R0 K J) _ (hdJ.toNd _ _ rfl) hx8 N HNX _ HNZ).mono ?_
              rintro e w' ⟨rfl, hd', hk'⟩
              go_wp2
              go_end0
              exact ⟨rfl, by rw [HDQ.out]; exact hd', (hkw.setCell rfl _).trans hk'⟩
            · have hn0 : n ≠ 0 := by rw [HN.out]; exact hL.out.ne i (by have := HJ0.out; have := HJI.out; omega) (by omega)
              have hnz : (0 : Int) < (n : Int) := by omega
              have hnb : n < 10 * K := by rw [HN.out]; exact nn_lt hN.dig hF.out hKp i
              obtain ⟨q, hq⟩ : ∃ q, n / K = q := ⟨_, rfl⟩
              obtain ⟨m, hm⟩ : ∃ m, n % K = m := ⟨_, rfl⟩
              obtain ⟨X, hX⟩ : ∃ X, m * 10 = X := ⟨_, rfl⟩
              have hmK : m < K := by rw [← hm]; exact Nat.mod_lt _ hKp
              have hq9 : q ≤ 9 := by rw [← hq]; exact Nat.le_of_lt_succ ((Nat.div_lt_iff_lt_mul hKp).2 hnb)
              have HX' : Hid (X = nn d nd R0 K (i + 1)) := by show _ = _; rw [← hX, nn, ← HN.out, hm, dg_out (by have := HJ0.out; have := HJI.out; omega)]; rfl
              have HQ : Hid (nn d nd R0 K i / K = q) := by show _ = _; rw [← hq, HN.out]
              have hdiv : (n : Int) / (K : Int) = (q : Int) := by rw [← hq]; exact (Int.natCast_ediv n K).symm
              have hand : bits .and .u64 (n : Int) ((K : Int) - 1) = (m : Int) := by rw [← hm]; exact and_mask n K k hK.out hKp (by omega) hKb
              have w1 : IntKind.u64.wrap ((m : Int) * 10) = (X : Int) := u64_of (by omega) (by omega)
              have w6 : IntKind.u64.wrap ((q : Int) + 48) = (q : Int) + 48 := u64_id (by omega) (by omega)
              have w7 : IntKind.u8.wrap ((q : Int) + 48) = (q : Int) + 48 := u8_of (n := q + 48) (by omega) (by omega)
              have HJI' : Hid (j ≤ i + 1) := by have := HJI.out; show _ ≤ _; omega
              have hiJ' : i + 1 ≤ J := by omega
              clear hX HN hq hm hnb hmK hKb hNN hN hF hL hdp hK HJI HJ0 hiJ hn0
              by_cases hx : x < 800
              · have hxz : (x : Int) < 800 := by omega
                have HXI : Hid (x = i) := by have := HX.out; show _ = _; omega
                have HXN : Hid (x + 1 = min (i + 1) 800) := by have := HXI.out; show _ = _; omega
                have hcx := hdw.cd hx
                have hfx := hdw.fr x
                clear HX
                go_wp2_with fail
                go_roundg (gk - 1)
                case measure => omega
                case rel =>
                  refine ⟨i + 1, X, x + 1, by go_num, rfl, HXN, by omega, HX', HJI', hiJ', ?_, hkw.setCell rfl _, by omega⟩
                  rw [← rd_put (by rw [← HXI.out]; exact hx), HQ.out, show rtr tr d nd R0 K (i + 1) = rtr tr d nd R0 K i from by rw [rtr, decide_eq_false (by rw [← HXI.out]; omega), Bool.false_and, Bool.or_false], Nat.add_comm 48, ← HXI.out]
                  have hh := hdw.setD hx (q + 48) ((q : Int) + 48) (by go_num)
                  rw [← HXI.out] at hh
                  exact hh
              · have hxb : decide ((x : Int) < 800) = false := decide_eq_false (by omega)
                have HXI : Hid (¬ i < 800) := by have := HX.out; show ¬ _ ; omega
                have HXN : Hid (x = min (i + 1) 800) := by have := HX.out; have := HXI.out; show _ = _; omega
                clear HX hx
                by_cases hq0 : q = 0
                · subst hq0
                  go_wp2_with fail
                  go_roundg (gk - 1)
                  case measure => omega
                  case rel =>
                    refine ⟨i + 1, X, x, rfl, rfl, HXN, by omega, HX', HJI', hiJ', ?_, hkw, by omega⟩
                    rw [← rd_far HXI.out, show rtr tr d nd R0 K (i + 1) = rtr tr d nd R0 K i from by rw [rtr, HQ.out]; simp]
                    exact hdw
                · have hqz : (0 : Int) < (q : Int) := by omega
                  have hft := hdw.fr 803
                  have hct := hdw.ctr
                  have HQ0 : Hid (0 < q) := by show 0 < q; omega
                  go_wp2_with fail
                  go_roundg (gk - 1)
                  case measure => omega
                  case rel =>
                    refine ⟨i + 1, X, x, rfl, rfl, HXN, by omega, HX', HJI', hiJ', ?_, hkw.setCell rfl _, by omega⟩
                    rw [← rd_far HXI.out, show rtr tr d nd R0 K (i + 1) = true from by rw [rtr, HQ.out, decide_eq_true HQ0.out, decide_eq_true (by have := HXI.out; omega)]; simp]
                    exact hdw.setTr true
end Go.Proofs.Qxb6608627aDoor
