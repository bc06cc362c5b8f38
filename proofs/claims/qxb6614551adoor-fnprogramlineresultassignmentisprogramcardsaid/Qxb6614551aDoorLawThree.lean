import Derived.Test.Qxb6614551aDoorLawFour
namespace Go.Proofs.Qxb6614551aDoor
open Go.RowKit

theorem dig_ident {c : UInt8} (h : Pl.isDig c = true) : Pl.identC c = true := by
  unfold Pl.identC
  rw [h, Bool.or_true]; rfl
theorem digs_parts {k : ByteArray} (h : isDigs k = true) : k.data.toList ≠ [] ∧ ∀ x ∈ k.data.toList, Pl.isDig x = true := by
  rw [isDigs_eq, Bool.and_eq_true, List.all_eq_true] at h
  refine ⟨fun e => ?_, h.2⟩
  rw [e] at h
  exact absurd h.1 (by decide)
theorem arr_size (l : List UInt8) : (⟨l.toArray⟩ : ByteArray).size = l.length := by rw [Lib.size_eq]
theorem res_of_digs {k : ByteArray} (h : isDigs k = true) : isRes ⟨(114 :: k.data.toList).toArray⟩ = true := by
  obtain ⟨h1, h2⟩ := digs_parts h
  show ((114 : UInt8) == 114 && !k.data.toList.isEmpty && k.data.toList.all Pl.isDig) = true
  rw [show k.data.toList.isEmpty = false from List.isEmpty_eq_false_iff.2 h1, List.all_eq_true.2 h2]; rfl

set_option maxRecDepth 100000 in
set_option maxHeartbeats 4000000 in
theorem law3 (hN : NextW) (k name x rest : ByteArray) (w : World) (hk : k.size ≤ maxLen) (hn : name.size ≤ maxLen) (hx : x.size ≤ maxLen) (hr : rest.size ≤ maxLen) (hU : UT w.heap.size w) :
    Calls Tryd.prog 3 #[.string k, .string name, .string x, .string rest] w fun e w' => e = .returned (.bool true) ∧ Below w.heap.size w w' := by
  have hb5 := bytes5 k name x rest w hk hn hx hr
  unfold maxLen at hk hn hx hr
  go_enter Tryd.func3, Tryd.ntmps3
  go_wp2_with fail
  go_at_call 5
  refine hb5.mono ?_
  rintro e w' ⟨⟨b, rfl⟩, hw⟩
  rw [hw]
  clear hw
  cases b with
  | false =>
    go_wp2
    go_ret
    exact ⟨rfl, Below.refl _ _⟩
  | true =>
  by_cases h1 : (65536 : Int) < (k.size : Int)
  · go_wp2
    go_ret
    exact ⟨rfl, Below.refl _ _⟩
  by_cases h2 : (65536 : Int) < (name.size : Int)
  · go_wp2
    go_ret
    exact ⟨rfl, Below.refl _ _⟩
  by_cases h3 : (65536 : Int) < (x.size : Int)
  · go_wp2
    go_ret
    exact ⟨rfl, Below.refl _ _⟩
  by_cases h4 : (65536 : Int) < (rest.size : Int)
  · go_wp2
    go_ret
    exact ⟨rfl, Below.refl _ _⟩
  have hks : k.size ≤ 65536 := by omega
  have hns : name.size ≤ 65536 := by omega
  have hxs : x.size ≤ 65536 := by omega
  have hrs : rest.size ≤ 65536 := by omega
  cases hdk : isDigs k with
  | false =>
    go_wp2_with (go_at_call 6; refine (digs_walk k w (by omega)).mono ?_; rintro e w' ⟨rfl, hw⟩; rw [hw, hdk])
    go_ret
    exact ⟨rfl, Below.refl _ _⟩
  | true =>
  cases hin : isIdent name with
  | false =>
    go_wp2_with (first | (go_at_call 6; refine (digs_walk k w (by omega)).mono ?_; rintro e w' ⟨rfl, hw⟩; rw [hw, hdk]) | (go_at_call 7; refine (ident_walk name w (by omega)).mono ?_; rintro e w' ⟨rfl, hw⟩; rw [hw, hin]))
    go_ret
    exact ⟨rfl, Below.refl _ _⟩
  | true =>
  cases hix : isIdent x with
  | false =>
    go_wp2_with (go_at_call 6; refine (digs_walk k w (by omega)).mono ?_; rintro e w' ⟨rfl, hw⟩; rw [hw, hdk])
    go_at_call 7
    refine (ident_walk name w (by omega)).mono ?_
    rintro e w' ⟨rfl, hw⟩
    rw [hw, hin]
    clear hw
    go_wp2_with fail
    go_at_call 7
    refine (ident_walk x w (by omega)).mono ?_
    rintro e w' ⟨rfl, hw⟩
    rw [hw, hix]
    clear hw
    go_wp2_with fail
    go_ret
    exact ⟨rfl, Below.refl _ _⟩
  | true =>
  cases hrx : isRes x with
  | true =>
    go_wp2_with (go_at_call 6; refine (digs_walk k w (by omega)).mono ?_; rintro e w' ⟨rfl, hw⟩; rw [hw, hdk])
    go_at_call 7
    refine (ident_walk name w (by omega)).mono ?_
    rintro e w' ⟨rfl, hw⟩
    rw [hw, hin]
    clear hw
    go_wp2_with fail
    go_at_call 7
    refine (ident_walk x w (by omega)).mono ?_
    rintro e w' ⟨rfl, hw⟩
    rw [hw, hix]
    clear hw
    go_wp2_with (go_at_call 8; refine (res_walk x w (by omega)).mono ?_; rintro e w' ⟨rfl, hw⟩; rw [hw, hrx])
    go_ret
    exact ⟨rfl, Below.refl _ _⟩
  | false =>
  obtain ⟨a1, hz1, ha1⟩ := add_run ⟨#[114]⟩ k (by show 1 + _ ≤ _; omega)
  have hs1 : a1.size = 1 + k.size := by rw [Lib.size_eq, hz1, List.length_append, ← Lib.size_eq, ← Lib.size_eq]; rfl
  obtain ⟨a2, hz2, ha2⟩ := add_run a1 ⟨#[32, 61, 32]⟩ (by show _ + 3 ≤ _; omega)
  have hs2 : a2.size = a1.size + 3 := by rw [Lib.size_eq, hz2, List.length_append, ← Lib.size_eq, ← Lib.size_eq]; rfl
  obtain ⟨a3, hz3, ha3⟩ := add_run a2 name (by omega)
  have hs3 : a3.size = a2.size + name.size := by rw [Lib.size_eq, hz3, List.length_append, ← Lib.size_eq, ← Lib.size_eq]
  obtain ⟨a4, hz4, ha4⟩ := add_run a3 ⟨#[40]⟩ (by show _ + 1 ≤ _; omega)
  have hs4 : a4.size = a3.size + 1 := by rw [Lib.size_eq, hz4, List.length_append, ← Lib.size_eq, ← Lib.size_eq]; rfl
  obtain ⟨a5, hz5, ha5⟩ := add_run a4 rest (by omega)
  have hs5 : a5.size = a4.size + rest.size := by rw [Lib.size_eq, hz5, List.length_append, ← Lib.size_eq, ← Lib.size_eq]
  obtain ⟨b2, hy2, hb2⟩ := add_run x ⟨#[32, 61, 32]⟩ (by show _ + 3 ≤ _; omega)
  have ht2 : b2.size = x.size + 3 := by rw [Lib.size_eq, hy2, List.length_append, ← Lib.size_eq, ← Lib.size_eq]; rfl
  obtain ⟨b3, hy3, hb3⟩ := add_run b2 name (by omega)
  have ht3 : b3.size = b2.size + name.size := by rw [Lib.size_eq, hy3, List.length_append, ← Lib.size_eq, ← Lib.size_eq]
  obtain ⟨b4, hy4, hb4⟩ := add_run b3 ⟨#[40]⟩ (by show _ + 1 ≤ _; omega)
  have ht4 : b4.size = b3.size + 1 := by rw [Lib.size_eq, hy4, List.length_append, ← Lib.size_eq, ← Lib.size_eq]; rfl
  obtain ⟨b5, hy5, hb5'⟩ := add_run b4 rest (by omega)
  have ht5 : b5.size = b4.size + rest.size := by rw [Lib.size_eq, hy5, List.length_append, ← Lib.size_eq, ← Lib.size_eq]
  obtain ⟨⟨Kt, tt, nt⟩, hst⟩ : ∃ x, Pl.scan rest.data.toList = x := ⟨_, rfl⟩
  have HST : Hid (Pl.scan rest.data.toList = (Kt, tt, nt)) := hst
  have hL1 : a5.data.toList = (114 :: k.data.toList) ++ (32 :: 61 :: 32 :: (name.data.toList ++ (40 :: rest.data.toList))) := by
    rw [hz5, hz4, hz3, hz2, hz1]; simp
  have hL2 : b5.data.toList = x.data.toList ++ (32 :: 61 :: 32 :: (name.data.toList ++ (40 :: rest.data.toList))) := by
    rw [hy5, hy4, hy3, hy2]; simp
  have hno32 : ∀ (l : List UInt8) (y : UInt8), (32 :: l).head? = some y → Pl.identC y = false := fun l y hy => by
    obtain rfl : y = 32 := by simpa using hy.symm
    rfl
  have hno40 : ∀ (l : List UInt8) (y : UInt8), (40 :: l).head? = some y → Pl.identC y = false := fun l y hy => by
    obtain rfl : y = 40 := by simpa using hy.symm
    rfl
  have HS1 : Hid (Pl.scan a5.data.toList = (2, 114 :: k.data.toList, k.data.toList.length + 1)) := by
    show _ = _
    rw [hL1]
    exact Pl.scan_ident 114 k.data.toList _ rfl (fun y hy => dig_ident ((digs_parts hdk).2 y hy)) (hno32 _)
  have HE1 : Hid (a5.data.toList.drop (k.data.toList.length + 1) = 32 :: 61 :: 32 :: (name.data.toList ++ (40 :: rest.data.toList))) := by
    show _ = _
    rw [hL1, show k.data.toList.length + 1 = (114 :: k.data.toList).length from rfl, List.drop_left]
  have HS2 : Hid (Pl.scan b5.data.toList = (2, x.data.toList, x.size)) := by show _ = _; rw [hL2]; exact scan_name hix _ (hno32 _)
  have HE2 : Hid (b5.data.toList.drop x.size = 32 :: 61 :: 32 :: (name.data.toList ++ (40 :: rest.data.toList))) := by show _ = _; rw [hL2]; exact drop_name _ _
  have HA : Hid (Pl.scan (32 :: 61 :: 32 :: (name.data.toList ++ (40 :: rest.data.toList))) = (4, [61], 2)) := by
    show _ = _
    rw [Pl.scan_blank 32 _ rfl, Pl.scan_pun 61 _ (by decide)]
    rfl
  have HB : Hid (Pl.scan (32 :: (name.data.toList ++ (40 :: rest.data.toList))) = (2, name.data.toList, 1 + name.size)) := by
    show _ = _
    rw [Pl.scan_blank 32 _ rfl, scan_name hin _ (hno40 _)]
  have HBE : Hid ((32 :: (name.data.toList ++ (40 :: rest.data.toList))).drop (1 + name.size) = 40 :: rest.data.toList) := by
    show _ = _
    rw [Nat.add_comm, List.drop_succ_cons, drop_name]
  have HC : Hid (Pl.scan (40 :: rest.data.toList) = (4, [40], 1)) := Pl.scan_pun 40 _ (by decide)
  have HRS : Hid (isRes ⟨(114 :: k.data.toList).toArray⟩ = true) := res_of_digs hdk
  have HRX : Hid (isRes ⟨x.data.toList.toArray⟩ = false) := hrx
  have hfs1 : (⟨(114 :: k.data.toList).toArray⟩ : ByteArray).size ≤ 16777216 := by rw [arr_size, List.length_cons, ← Lib.size_eq]; omega
  have hfs2 : (⟨x.data.toList.toArray⟩ : ByteArray).size ≤ 16777216 := by rw [arr_size, ← Lib.size_eq]; omega
  clear hz1 hz2 hz3 hz4 hz5 hy2 hy3 hy4 hy5 hL1 hL2 hst hno32 hno40
  go_wp2_with (go_at_call 6; refine (digs_walk k w (by omega)).mono ?_; rintro e w' ⟨rfl, hw⟩; rw [hw, hdk])
  go_at_call 7
  refine (ident_walk name w (by omega)).mono ?_
  rintro e w' ⟨rfl, hw⟩
  rw [hw, hin]
  clear hw
  go_wp2_with fail
  go_at_call 7
  refine (ident_walk x w (by omega)).mono ?_
  rintro e w' ⟨rfl, hw⟩
  rw [hw, hix]
  clear hw
  go_wp2_with (go_at_call 8; refine (res_walk x w (by omega)).mono ?_; rintro e w' ⟨rfl, hw⟩; rw [hw, hrx])
  go_at_call 9
  refine (new9 hN a5 w (by omega) hU _ _ _ HS1).mono ?_
  rintro e w1 ⟨bp, rfl, hP1, hB1⟩
  rw [HE1.out] at hP1
  go_wp2_with fail
  go_at_call 10
  refine (zz10 bp w1 true true _ (prog_res hN hP1 (hU.mono hB1) HA rfl HB HBE.out HC rfl HST HRS hfs1)).mono ?_
  rintro e w2 ⟨rfl, hP2, hB2⟩
  have hB12 := hB1.trans hB2
  go_wp2_with fail
  go_at_call 9
  refine (new9 hN rest w2 (by omega) ((hU.mono hB12).up hB12.size) _ _ _ HST).mono ?_
  rintro e w3 ⟨bq, rfl, hP3, hB3⟩
  have hB13 : Below w.heap.size w w3 := hB12.trans (hB3.mono hB12.size)
  have hP2' := hP2.below hB3
  have hca := hP2'.c0
  have hcb := hP2'.c1
  have hcc := hP3.c0
  have hcd := hP3.c1
  obtain ⟨TT, hTT⟩ : ∃ TT : ByteArray, (⟨tt.toArray⟩ : ByteArray) = TT := ⟨_, rfl⟩
  rw [hTT] at hcb hcd
  clear hP1 hP2 hP3 hP2' hTT HE1 HS1 HST HC HRS
  go_wp2_with fail
  go_quiet (fail)
  go_wp2_with fail
  generalize hND : w3.drewN _ = w3'
  have hB13' : Below w.heap.size w w3' := by rw [← hND]; exact Below.drew hB13 _
  clear hca hcb hcc hcd
  go_at_call 9
  refine (new9 hN b5 w3' (by omega) ((hU.mono hB13').up hB13'.size) _ _ _ HS2).mono ?_
  rintro e w4 ⟨bp2, rfl, hP4, hB4⟩
  rw [HE2.out] at hP4
  go_wp2_with fail
  go_at_call 10
  refine (zz10 bp2 w4 false true _ (prog_def hN hP4 (((hU.mono hB13').up hB13'.size).mono hB4) HA rfl HB HRX hfs2)).mono ?_
  rintro e w5 ⟨rfl, hP5, hB5⟩
  have hB15 : Below w.heap.size w w5 := hB13'.trans ((hB4.trans hB5).mono hB13'.size)
  have hce : w5.cell? ⟨bp2, 0, none⟩ = some (.int .i64 2) := hP5.c0
  have hcf : w5.cell? ⟨bp2, 1, none⟩ = some (.string name) := hP5.c1
  have hnn : (name.toList == name.toList) = true := by simp
  clear hP4 hP5
  go_wp2
  go_ret
  exact ⟨rfl, hB15⟩
end Go.Proofs.Qxb6614551aDoor
