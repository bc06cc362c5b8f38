import Derived.Test.Qxb6608627aDoorShift
namespace Go.Proofs.Qxb6608627aDoor
open Go.RowKit

def sru (D : Dec) (x : Int) : Bool :=
  if x < 0 ∨ (D.nd : Int) ≤ x then false
  else if D.d x.toNat = 53 ∧ x.toNat + 1 = D.nd then (D.tr || (decide (0 < x.toNat) && !decide ((D.d (x.toNat - 1) - 48) % 2 = 0)))
  else decide (53 ≤ D.d x.toNat)

set_option maxRecDepth 100000 in
set_option maxHeartbeats 4000000 in
theorem sru_walk (D : Dec) (hN : Norm D.d D.nd) (x : Int) (hx : -1000000 ≤ x ∧ x ≤ 1000000) (B : Bool) (hB : Hid (sru D x = B)) (b : Nat) (w : World) (h : At w b D) :
    Calls Tryd.prog 57 #[.pointer (some ⟨b, 0, none⟩), .int .i64 x] w fun e w' => e = .returned (.bool B) ∧ w' = w := by
  have hc := DecAt.cnd h
  have hct := DecAt.ctr h
  obtain ⟨nd, hnd⟩ : ∃ nd, D.nd = nd := ⟨_, rfl⟩
  obtain ⟨tr, htr⟩ : ∃ tr, D.tr = tr := ⟨_, rfl⟩
  have hn8 := hN.le
  rw [hnd] at hc hn8
  rw [htr] at hct
  have HN : Hid (∀ i, i < nd → 48 ≤ D.d i ∧ D.d i ≤ 57) := fun i hi => hN.dig i (by rw [hnd]; exact hi)
  have HC : Hid (∀ i, i < nd → w.cell? ⟨b, i, none⟩ = some (.int .u8 (D.d i : Int))) := fun i hi => DecAt.cd h (by omega)
  unfold sru at hB
  rw [hnd, htr] at hB
  clear h hN
  by_cases h1 : x < 0
  · have HE : Hid (B = false) := by show _ = _; rw [← hB.out, if_pos (Or.inl h1)]
    clear hB
    go_enter Tryd.func57, Tryd.ntmps57
    go_wp2
    go_ret
    exact ⟨retB HE.out.symm, rfl⟩
  obtain ⟨i, rfl⟩ : ∃ i : Nat, x = (i : Int) := ⟨x.toNat, by omega⟩
  have h1b : decide ((i : Int) < 0) = false := decide_eq_false h1
  by_cases h2 : nd ≤ i
  · have h2z : (nd : Int) ≤ (i : Int) := by omega
    have HE : Hid (B = false) := by show _ = _; rw [← hB.out, if_pos (Or.inr h2z)]
    clear hB
    go_enter Tryd.func57, Tryd.ntmps57
    go_wp2
    go_ret
    exact ⟨retB HE.out.symm, rfl⟩
  have h2z : ¬ (nd : Int) ≤ (i : Int) := by omega
  have h2b : decide ((nd : Int) ≤ (i : Int)) = false := decide_eq_false h2z
  have hB2 := hB.out
  rw [if_neg (by omega), Int.toNat_natCast] at hB2
  have hcell := HC.out i (by omega)
  have hi8 : (i : Int) < 800 := by omega
  obtain ⟨di, hdi⟩ : ∃ di, D.d i = di := ⟨_, rfl⟩
  rw [hdi] at hcell hB2
  have hd48 : 48 ≤ di ∧ di ≤ 57 := by rw [← hdi]; exact HN.out i (by omega)
  clear hB hdi
  by_cases h5 : di = 53
  · have h5b : ((di : Int) == 53) = true := by rw [beq_iff_eq]; omega
    by_cases h6 : i + 1 = nd
    · have h6b : ((i : Int) + 1 == (nd : Int)) = true := by rw [beq_iff_eq]; omega
      rw [if_pos ⟨h5, h6⟩] at hB2
      cases tr with
      | true =>
        have HE : Hid (B = true) := by show _ = _; rw [← hB2]; rfl
        clear hB2 h5
        go_enter Tryd.func57, Tryd.ntmps57
        go_wp2
        go_ret
        exact ⟨retB HE.out.symm, rfl⟩
      | false =>
        rw [Bool.false_or] at hB2
        cases i with
        | zero =>
          have HE : Hid (B = false) := by show _ = _; rw [← hB2]; rfl
          obtain rfl : nd = 1 := by omega
          clear hB2 h5 h6 h6b
          go_enter Tryd.func57, Tryd.ntmps57
          go_wp2
          go_ret
          exact ⟨retB HE.out.symm, rfl⟩
        | succ i =>
          have hcell2 := HC.out i (by omega)
          have hw1 : IntKind.i64.wrap (((i + 1 : Nat) : Int) - 1) = (i : Int) := by rw [wrap_small _ (by omega) (by omega)]; omega
          have hip : (0 : Int) < ((i + 1 : Nat) : Int) := by omega
          have hi2 : (i : Int) < 800 := by omega
          obtain ⟨dj, hdj⟩ : ∃ dj, D.d i = dj := ⟨_, rfl⟩
          rw [Nat.add_sub_cancel, hdj] at hB2
          rw [hdj] at hcell2
          have hdj48 : 48 ≤ dj ∧ dj ≤ 57 := by rw [← hdj]; exact HN.out i (by omega)
          obtain ⟨g, hg⟩ : ∃ g, dj - 48 = g := ⟨_, rfl⟩
          rw [hg] at hB2
          have w1 : IntKind.u8.wrap ((dj : Int) - 48) = (g : Int) := u8_of (by omega) (by omega)
          have w2 : IntKind.u8.wrap ((g : Int).tmod 2) = ((g % 2 : Nat) : Int) := u8_of (by rw [Int.tmod_eq_emod_of_nonneg (by omega)]; rfl) (by omega)
          have w3 : IntKind.u8.wrap ((g : Int) % 2) = ((g % 2 : Nat) : Int) := u8_of rfl (by omega)
          by_cases h0 : g % 2 = 0
          · have HE : Hid (B = false) := by show _ = _; rw [← hB2, decide_eq_true h0, Bool.not_true, Bool.and_false]
            have h0b : (((g % 2 : Nat) : Int) == 0) = true := by rw [beq_iff_eq]; omega
            clear hB2 h5 hdj hg
            go_enter Tryd.func57, Tryd.ntmps57
            go_wp2
            go_ret
            exact ⟨retB (by rw [HE.out]; simp; omega), rfl⟩
          · have HE : Hid (B = true) := by show _ = _; rw [← hB2, decide_eq_false h0, decide_eq_true (by omega)]; rfl
            have h0b : (((g % 2 : Nat) : Int) == 0) = false := by rw [beq_eq_false_iff_ne]; omega
            clear hB2 h5 hdj hg
            go_enter Tryd.func57, Tryd.ntmps57
            go_wp2
            go_ret
            exact ⟨retB (by rw [HE.out]; simp; omega), rfl⟩
    · have h6b : ((i : Int) + 1 == (nd : Int)) = false := by rw [beq_eq_false_iff_ne]; omega
      rw [if_neg (fun h => h6 h.2), decide_eq_true (by omega)] at hB2
      have HE : Hid (B = true) := hB2.symm
      have h53 : (53 : Int) ≤ (di : Int) := by omega
      clear hB2 h5
      go_enter Tryd.func57, Tryd.ntmps57
      go_wp2
      go_ret
      exact ⟨retB HE.out.symm, rfl⟩
  · have h5b : ((di : Int) == 53) = false := by rw [beq_eq_false_iff_ne]; omega
    rw [if_neg (fun h => h5 h.1)] at hB2
    by_cases h53 : 53 ≤ di
    · have h53z : (53 : Int) ≤ (di : Int) := by omega
      have HE : Hid (B = true) := by show _ = _; rw [← hB2, decide_eq_true h53]
      clear hB2
      go_enter Tryd.func57, Tryd.ntmps57
      go_wp2
      go_ret
      exact ⟨retB HE.out.symm, rfl⟩
    · have h53z : ¬ (53 : Int) ≤ (di : Int) := by omega
      have h53b : decide ((53 : Int) ≤ (di : Int)) = false := decide_eq_false h53z
      have HE : Hid (B = false) := by show _ = _; rw [← hB2, decide_eq_false h53]
      clear hB2
      go_enter Tryd.func57, Tryd.ntmps57
      go_wp2
      go_ret
      exact ⟨retB HE.out.symm, rfl⟩

theorem retU {a b : Nat} (h : a = b) : Ending.returned (.int .u64 (a : Int)) = .returned (.int .u64 (b : Int)) := by rw [h]
/-- what RoundedInteger has read when i digits are read -/
def ri (D : Dec) : Nat → Nat
  | 0 => 0
  | i + 1 => (ri D i * 10 + dg D.d D.nd i) % 18446744073709551616
theorem ri_lt (D : Dec) : ∀ i, ri D i < 18446744073709551616
  | 0 => by show 0 < _; decide
  | i + 1 => Nat.mod_lt _ (by decide)
def rint (D : Dec) : Nat := if 20 < D.dp then 18446744073709551615 else (ri D D.dp.toNat + (if sru D D.dp = true then 1 else 0)) % 18446744073709551616

set_option maxRecDepth 100000 in
set_option maxHeartbeats 4000000 in
theorem rint_walk (D : Dec) (hN : Norm D.d D.nd) (hx : -1000000 ≤ D.dp ∧ D.dp ≤ 1000000) (Z : Nat) (hZ : Hid (rint D = Z)) (b : Nat) (w : World) (h : At w b D) :
    Calls Tryd.prog 51 #[.pointer (some ⟨b, 0, none⟩)] w fun e w' => e = .returned (.int .u64 (Z : Int)) ∧ w' = w := by
  have hc := DecAt.cnd h
  have hcp := DecAt.cdp h
  have hcall := sru_walk D hN D.dp hx _ rfl b w h
  obtain ⟨nd, hnd⟩ : ∃ nd, D.nd = nd := ⟨_, rfl⟩
  obtain ⟨dp, hdp⟩ : ∃ dp, D.dp = dp := ⟨_, rfl⟩
  obtain ⟨B, hB⟩ : ∃ B, sru D dp = B := ⟨_, rfl⟩
  have hn8 := hN.le
  have hn1 := hN.pos
  rw [hnd] at hc hn8 hn1
  rw [hdp] at hcp hcall hx
  rw [hB] at hcall
  have HN : Hid (∀ i, i < nd → 48 ≤ D.d i ∧ D.d i ≤ 57) := fun i hi => hN.dig i (by rw [hnd]; exact hi)
  have HC : Hid (∀ i, i < nd → w.cell? ⟨b, i, none⟩ = some (.int .u8 (D.d i : Int))) := fun i hi => DecAt.cd h (by omega)
  have HZ : Hid (Z = if 20 < dp then 18446744073709551615 else (ri D dp.toNat + (if B = true then 1 else 0)) % 18446744073709551616) := by
    show _ = _
    rw [← hZ.out, rint, hdp, hB]
  have HND : Hid (D.nd = nd) := hnd
  clear hZ h hN hnd hdp hB
  go_enter Tryd.func51, Tryd.ntmps51
  by_cases h20 : 20 < dp
  · have HE : Hid (Z = 18446744073709551615) := by show _ = _; rw [HZ.out, if_pos h20]
    clear HZ
    go_wp2
    go_ret
    exact ⟨by rw [HE.out]; rfl, rfl⟩
  · have h20b : decide ((20 : Int) < dp) = false := decide_eq_false h20
    have HE : Hid (Z = (ri D dp.toNat + (if B = true then 1 else 0)) % 18446744073709551616) := by show _ = _; rw [HZ.out, if_neg h20]
    clear HZ
    go_wp2_with fail
    go_loopg [3, 4] 30 (fun gf v3 v4 wr => ∃ (i n : Nat), v3 = .int .i64 (i : Int) ∧ v4 = .int .u64 (n : Int) ∧ Hid (n = ri D i) ∧ n < 18446744073709551616 ∧ Hid (wr = w) ∧ i ≤ dp.toNat ∧ i ≤ nd ∧ 21 < gf + i)
    case atStart => exact ⟨0, 0, rfl, rfl, rfl, by decide, rfl, Nat.zero_le _, Nat.zero_le _, by omega⟩
    case round =>
      obtain ⟨i, n, rfl, rfl, HI, hnb, HW, hi, hin, hg⟩ := hrel
      have hc1 : wr.cell? ⟨b, 800, none⟩ = some (.int .i64 (nd : Int)) := by rw [HW.out]; exact hc
      have hc2 : wr.cell? ⟨b, 801, none⟩ = some (.int .i64 dp) := by rw [HW.out]; exact hcp
      by_cases hb : (i : Int) < dp ∧ i < nd
      · obtain ⟨hb1, hb2⟩ := hb
        have hb2z : (i : Int) < (nd : Int) := by omega
        have hi8 : (i : Int) < 800 := by omega
        have hcell : wr.cell? ⟨b, i, none⟩ = some (.int .u8 (D.d i : Int)) := by rw [HW.out]; exact HC.out i hb2
        obtain ⟨di, hdi⟩ : ∃ di, D.d i = di := ⟨_, rfl⟩
        rw [hdi] at hcell
        have hd48 : 48 ≤ di ∧ di ≤ 57 := by rw [← hdi]; exact HN.out i hb2
        obtain ⟨g, hg'⟩ : ∃ g, di - 48 = g := ⟨_, rfl⟩
        obtain ⟨X, hX⟩ : ∃ X, (n * 10 + g) % 18446744073709551616 = X := ⟨_, rfl⟩
        have HX : Hid (X = ri D (i + 1)) := by show _ = _; rw [← hX, ri, ← HI.out, dg_in (by rw [HND.out]; exact hb2), hdi, hg']
        have w1 : IntKind.u8.wrap ((di : Int) - 48) = (g : Int) := u8_of (by omega) (by omega)
        have w2 : IntKind.u64.wrap (IntKind.u64.wrap ((n : Int) * 10) + (g : Int)) = (X : Int) := by rw [IntKind.wrap_u64, IntKind.wrap_u64]; omega
        have wg : IntKind.u64.wrap (g : Int) = (g : Int) := u64_id (by omega) (by omega)
        have hXb : X < 18446744073709551616 := by omega
        clear hX hg' hdi HI
        go_wp2_with fail
        go_roundg (gk - 1)
        case measure => omega
        case rel => exact ⟨i + 1, X, by go_num, rfl, HX, hXb, HW, by omega, by omega, by omega⟩
      · by_cases h1 : (i : Int) < dp
        · have h2b : decide ((i : Int) < (nd : Int)) = false := decide_eq_false (by omega)
          have h2c : decide (i < nd) = false := decide_eq_false (by omega)
          have h2d : ¬ (i : Int) < (nd : Int) := by omega
          have HB1 : Hid (i = i) := rfl
          have HOUT : Hid (nd ≤ i ∨ dp ≤ (i : Int)) := by show _ ∨ _; omega
          clear hb
          go_wp2_with fail
          go_loopg [3, 4] 30 (fun gf v3 v4 wr => ∃ (i n : Nat), v3 = .int .i64 (i : Int) ∧ v4 = .int .u64 (n : Int) ∧ Hid (n = ri D i) ∧ n < 18446744073709551616 ∧ Hid (wr = w) ∧ i ≤ dp.toNat ∧ Hid (nd ≤ i ∨ dp ≤ (i : Int)) ∧ 21 < gf + i)
          case atStart => exact ⟨i, n, rfl, rfl, HI, hnb, HW, hi, HOUT, by omega⟩
          case round =>
            clear HI hnb HW hi HOUT hg hc1 hc2 hin HB1
            obtain ⟨i, n, rfl, rfl, HI, hnb, HW, hi, HOUT, hg⟩ := hrel
            have hc1 : wr.cell? ⟨b, 800, none⟩ = some (.int .i64 (nd : Int)) := by rw [HW.out]; exact hc
            have hc2 : wr.cell? ⟨b, 801, none⟩ = some (.int .i64 dp) := by rw [HW.out]; exact hcp
            by_cases hb : (i : Int) < dp
            · obtain ⟨X, hX⟩ : ∃ X, (n * 10) % 18446744073709551616 = X := ⟨_, rfl⟩
              have hni : nd ≤ i := by have := HOUT.out; omega
              have HX : Hid (X = ri D (i + 1)) := by show _ = _; rw [← hX, ri, ← HI.out, dg_out (by rw [HND.out]; omega)]; rfl
              have w2 : IntKind.u64.wrap ((n : Int) * 10) = (X : Int) := by rw [IntKind.wrap_u64]; omega
              have hXb : X < 18446744073709551616 := by omega
              have HO' : Hid (nd ≤ i + 1 ∨ dp ≤ ((i + 1 : Nat) : Int)) := Or.inl (by omega)
              clear hX HI HOUT hni
              go_wp2_with fail
              go_roundg (gk - 1)
              case measure => omega
              case rel => exact ⟨i + 1, X, by go_num, rfl, HX, hXb, HW, by omega, HO', by omega⟩
            · have hbb : decide ((i : Int) < dp) = false := decide_eq_false hb
              have HI2 : Hid (n = ri D dp.toNat) := by
                show _ = _
                rw [HI.out]
                congr 1
                omega
              clear HI HOUT hg
              go_wp2_with fail
              go_at_call 57
              rw [HW.out]
              refine hcall.mono ?_
              rintro e w' ⟨rfl, hw'⟩
              rw [hw']
              clear hw' hcall
              cases B with
              | false =>
                have HF : Hid (Z = n) := by show _ = _; rw [HE.out, ← HI2.out]; simp; omega
                clear HE HI2
                go_wp2
                go_ret
                exact ⟨retU HF.out.symm, rfl⟩
              | true =>
                obtain ⟨X, hX⟩ : ∃ X, (n + 1) % 18446744073709551616 = X := ⟨_, rfl⟩
                have HF : Hid (Z = X) := by show _ = _; rw [HE.out, ← HI2.out]; simpa using hX
                have w2 : IntKind.u64.wrap ((n : Int) + 1) = (X : Int) := by rw [IntKind.wrap_u64]; omega
                clear HE HI2 hX
                go_wp2
                go_ret
                exact ⟨retU HF.out.symm, rfl⟩
        · have h1b : decide ((i : Int) < dp) = false := decide_eq_false h1
          have HB1 : Hid (i = i) := rfl
          have HOUT : Hid (nd ≤ i ∨ dp ≤ (i : Int)) := by show _ ∨ _; omega
          clear hb
          go_wp2_with fail
          go_loopg [3, 4] 30 (fun gf v3 v4 wr => ∃ (i n : Nat), v3 = .int .i64 (i : Int) ∧ v4 = .int .u64 (n : Int) ∧ Hid (n = ri D i) ∧ n < 18446744073709551616 ∧ Hid (wr = w) ∧ i ≤ dp.toNat ∧ Hid (nd ≤ i ∨ dp ≤ (i : Int)) ∧ 21 < gf + i)
          case atStart => exact ⟨i, n, rfl, rfl, HI, hnb, HW, hi, HOUT, by omega⟩
          case round =>
            clear HI hnb HW hi HOUT hg hc1 hc2 hin HB1
            obtain ⟨i, n, rfl, rfl, HI, hnb, HW, hi, HOUT, hg⟩ := hrel
            have hc1 : wr.cell? ⟨b, 800, none⟩ = some (.int .i64 (nd : Int)) := by rw [HW.out]; exact hc
            have hc2 : wr.cell? ⟨b, 801, none⟩ = some (.int .i64 dp) := by rw [HW.out]; exact hcp
            by_cases hb : (i : Int) < dp
            · obtain ⟨X, hX⟩ : ∃ X, (n * 10) % 18446744073709551616 = X := ⟨_, rfl⟩
              have hni : nd ≤ i := by have := HOUT.out; omega
              have HX : Hid (X = ri D (i + 1)) := by show _ = _; rw [← hX, ri, ← HI.out, dg_out (by rw [HND.out]; omega)]; rfl
              have w2 : IntKind.u64.wrap ((n : Int) * 10) = (X : Int) := by rw [IntKind.wrap_u64]; omega
              have hXb : X < 18446744073709551616 := by omega
              have HO' : Hid (nd ≤ i + 1 ∨ dp ≤ ((i + 1 : Nat) : Int)) := Or.inl (by omega)
              clear hX HI HOUT hni
              go_wp2_with fail
              go_roundg (gk - 1)
              case measure => omega
              case rel => exact ⟨i + 1, X, by go_num, rfl, HX, hXb, HW, by omega, HO', by omega⟩
            · have hbb : decide ((i : Int) < dp) = false := decide_eq_false hb
              have HI2 : Hid (n = ri D dp.toNat) := by
                show _ = _
                rw [HI.out]
                congr 1
                omega
              clear HI HOUT hg
              go_wp2_with fail
              go_at_call 57
              rw [HW.out]
              refine hcall.mono ?_
              rintro e w' ⟨rfl, hw'⟩
              rw [hw']
              clear hw' hcall
              cases B with
              | false =>
                have HF : Hid (Z = n) := by show _ = _; rw [HE.out, ← HI2.out]; simp; omega
                clear HE HI2
                go_wp2
                go_ret
                exact ⟨retU HF.out.symm, rfl⟩
              | true =>
                obtain ⟨X, hX⟩ : ∃ X, (n + 1) % 18446744073709551616 = X := ⟨_, rfl⟩
                have HF : Hid (Z = X) := by show _ = _; rw [HE.out, ← HI2.out]; simpa using hX
                have w2 : IntKind.u64.wrap ((n : Int) + 1) = (X : Int) := by rw [IntKind.wrap_u64]; omega
                clear HE HI2 hX
                go_wp2
                go_ret
                exact ⟨retU HF.out.symm, rfl⟩
end Go.Proofs.Qxb6608627aDoor
