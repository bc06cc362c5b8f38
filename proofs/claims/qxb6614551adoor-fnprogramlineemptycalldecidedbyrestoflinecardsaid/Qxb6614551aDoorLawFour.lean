import Derived.Test.Qxb6614551aDoorProgLine
namespace Go.Proofs.Qxb6614551aDoor
open Go.RowKit

theorem add_run (x y : ByteArray) (h : x.size + y.size ≤ 9223372036854775807) : ∃ z : ByteArray, z.data.toList = x.data.toList ++ y.data.toList ∧ ∀ W, (Op.stringOp .add x y).run Tryd.prog W = .ok (.string z) W :=
  ⟨x ++ y, by rw [ByteArray.data_append]; simp, fun W => run_string_add_sum W x y h⟩
theorem ident_parts {s : ByteArray} (h : isIdent s = true) : ∃ c t, s.data.toList = c :: t ∧ Pl.isLet c = true ∧ ∀ x ∈ t, Pl.identC x = true := by
  unfold isIdent at h
  split at h
  · cases h
  · rename_i c t hs
    rw [Bool.and_eq_true, List.all_eq_true] at h
    exact ⟨c, t, hs, h.1, h.2⟩
theorem scan_name {s : ByteArray} (h : isIdent s = true) (r : List UInt8) (hr : ∀ x, r.head? = some x → Pl.identC x = false) : Pl.scan (s.data.toList ++ r) = (2, s.data.toList, s.size) := by
  obtain ⟨c, t, hs, hc, ht⟩ := ident_parts h
  rw [hs, Pl.scan_ident c t r hc ht hr, Lib.size_eq, hs]; rfl
theorem UT.up {B B' : Nat} {w : World} (h : UT B w) (hb : B ≤ B') : UT B' w := fun W hW => h W (hW.mono hb)
theorem Below.drew {B : Nat} {w w' : World} (h : Below B w w') (n : Nat) : Below B w (w'.drewN n) := h.trans ⟨rfl, rfl, rfl, Nat.le_refl _, fun _ _ => rfl⟩
theorem drop_name (s : ByteArray) (r : List UInt8) : (s.data.toList ++ r).drop s.size = r := by
  rw [Lib.size_eq, List.drop_left]

set_option maxRecDepth 100000 in
set_option maxHeartbeats 2000000 in
theorem law4 (hN : NextW) (name tail : ByteArray) (w : World) (hn : name.size ≤ maxLen) (ht : tail.size ≤ maxLen) (hU : UT w.heap.size w) :
    Calls Tryd.prog 4 #[.string name, .string tail] w fun e w' => e = .returned (.bool true) ∧ Below w.heap.size w w' := by
  have hb11 := bytes11 name tail w hn ht
  unfold maxLen at hn ht
  go_enter Tryd.func4, Tryd.ntmps4
  go_wp2_with fail
  go_at_call 11
  refine hb11.mono ?_
  rintro e w' ⟨⟨b, rfl⟩, hw⟩
  rw [hw]
  clear hw
  cases b with
  | false =>
    go_wp2
    go_ret
    exact ⟨rfl, Below.refl _ _⟩
  | true =>
  by_cases h1 : (65536 : Int) < (name.size : Int)
  · go_wp2
    go_ret
    exact ⟨rfl, Below.refl _ _⟩
  by_cases h2 : (65536 : Int) < (tail.size : Int)
  · go_wp2
    go_ret
    exact ⟨rfl, Below.refl _ _⟩
  have hns : name.size ≤ 65536 := by omega
  have hts : tail.size ≤ 65536 := by omega
  cases hid : isIdent name with
  | false =>
    go_wp2_with (go_at_call 7; refine (ident_walk name w (by omega)).mono ?_; rintro e w' ⟨rfl, hw⟩; rw [hw, hid])
    go_ret
    exact ⟨rfl, Below.refl _ _⟩
  | true =>
  obtain ⟨z1, hz1, ha1⟩ := add_run name ⟨#[40, 41]⟩ (by show _ + 2 ≤ _; omega)
  obtain ⟨z2, hz2, ha2⟩ := add_run name ⟨#[40, 41, 32]⟩ (by show _ + 3 ≤ _; omega)
  have hz1s : z1.size = name.size + 2 := by rw [Lib.size_eq, hz1, List.length_append, ← Lib.size_eq]; rfl
  have hz2s : z2.size = name.size + 3 := by rw [Lib.size_eq, hz2, List.length_append, ← Lib.size_eq]; rfl
  obtain ⟨z3, hz3, ha3⟩ := add_run z2 tail (by omega)
  have hz3s : z3.size = name.size + 3 + tail.size := by rw [Lib.size_eq, hz3, List.length_append, ← Lib.size_eq, ← Lib.size_eq, hz2s]
  obtain ⟨⟨Kt, tt, nt⟩, hst⟩ : ∃ x, Pl.scan tail.data.toList = x := ⟨_, rfl⟩
  obtain ⟨D, hD⟩ : ∃ D, Pl.lineHas tail.data.toList = D := ⟨_, rfl⟩
  have HST : Hid (Pl.scan tail.data.toList = (Kt, tt, nt)) := hst
  have HD : Hid (Pl.lineHas tail.data.toList = D) := hD
  have HKD : Hid ((Kt == 1 || Kt == 0) = !D) := by
    show _ = _
    rw [← hD, Pl.lineHas_scan, hst, ← Bool.not_or, Bool.not_not]
  have HS1 : Hid (Pl.scan z1.data.toList = (2, name.data.toList, name.size)) := by
    show _ = _
    rw [hz1]
    exact scan_name hid _ (fun x hx => by obtain rfl : x = 40 := by simpa using hx.symm
                                          rfl)
  have HE1 : Hid (z1.data.toList.drop name.size = [40, 41]) := by show _ = _; rw [hz1]; exact drop_name _ _
  have hz3' : z3.data.toList = name.data.toList ++ (40 :: 41 :: 32 :: tail.data.toList) := by rw [hz3, hz2, List.append_assoc]; rfl
  have HS3 : Hid (Pl.scan z3.data.toList = (2, name.data.toList, name.size)) := by
    show _ = _
    rw [hz3']
    exact scan_name hid _ (fun x hx => by obtain rfl : x = 40 := by simpa using hx.symm
                                          rfl)
  have HE3 : Hid (z3.data.toList.drop name.size = 40 :: 41 :: 32 :: tail.data.toList) := by show _ = _; rw [hz3']; exact drop_name _ _
  have HSB : Hid (Pl.scan (32 :: tail.data.toList) = (Kt, tt, 1 + nt)) := by show _ = _; rw [Pl.scan_blank 32 _ rfl, hst]
  clear hz1 hz2 hz3 hz3' hst hD
  go_wp2_with (go_at_call 7; refine (ident_walk name w (by omega)).mono ?_; rintro e w' ⟨rfl, hw⟩; rw [hw, hid])
  go_at_call 9
  refine (new9 hN z1 w (by omega) hU _ _ _ HS1).mono ?_
  rintro e w1 ⟨bp, rfl, hP1, hB1⟩
  rw [HE1.out] at hP1
  go_wp2_with fail
  go_at_call 10
  refine (zz10 bp w1 false false _ (prog_call hN hP1 (hU.mono hB1) (Pl.scan_pun 40 [41] (by decide)) rfl (Pl.scan_pun 41 [] (by decide)) rfl Pl.scan_nil true rfl)).mono ?_
  rintro e w2 ⟨rfl, hP2, hB2⟩
  have hc0 : w2.cell? ⟨bp, 0, none⟩ = some (.int .i64 0) := hP2.c0
  have hB12 := hB1.trans hB2
  go_wp2_with fail
  go_at_call 9
  refine (new9 hN z3 w2 (by omega) ((hU.mono hB12).up hB12.size) _ _ _ HS3).mono ?_
  rintro e w3 ⟨bp2, rfl, hP3, hB3⟩
  rw [HE3.out] at hP3
  clear hc0
  go_wp2_with fail
  go_at_call 10
  have hpc := prog_call hN hP3 (((hU.mono hB12).up hB12.size).mono hB3) (Pl.scan_pun 40 _ (by decide)) rfl (Pl.scan_pun 41 (32 :: tail.data.toList) (by decide)) rfl HSB (!D) HKD
  rw [Bool.not_not] at hpc
  refine (zz10 bp2 w3 false D _ hpc).mono ?_
  clear hpc
  rintro e w4 ⟨rfl, hP4, hB4⟩
  have hB14 : Below w.heap.size w w4 := hB12.trans ((hB3.trans hB4).mono hB12.size)
  go_wp2_with fail
  go_at_call 9
  refine (new9 hN tail w4 (by omega) ((hU.mono hB14).up hB14.size) _ _ _ HST).mono ?_
  rintro e w5 ⟨bq, rfl, hP5, hB5⟩
  have hP4' := hP4.below hB5
  have hca := hP4'.c0
  have hcb := hP4'.c1
  have hcc := hP5.c0
  have hcd := hP5.c1
  obtain ⟨TT, hTT⟩ : ∃ TT : ByteArray, (⟨tt.toArray⟩ : ByteArray) = TT := ⟨_, rfl⟩
  rw [hTT] at hcb hcd
  have hBend : Below w.heap.size w w5 := hB14.trans (hB5.mono hB14.size)
  clear hP1 hP2 hP3 hP4 hP5 hP4' hTT HE1 HE3 HS1 HS3 HSB HST HKD
  go_wp2_with fail
  go_quiet ((go_at_call 12; exact Calls.quiet_of_same (line_walk tail _ (by omega) D HD)))
  go_wp2
  go_ret
  exact ⟨rfl, Below.drew hBend _⟩
end Go.Proofs.Qxb6614551aDoor
