import Derived.Test.Qxb6606102aDoorRbWalkB
import Derived.Laws.NewBlocks
namespace Go.Proofs.Qxb6606102aDoor
open Go.RowKit Go.Maps Go.WideMaps

set_option linter.unusedSimpArgs false in
set_option maxRecDepth 100000 in
set_option maxHeartbeats 4000000 in
theorem rb_false_false (a r s : ByteArray) (w : World) (hT : Tabs w) (ha : a.size ≤ maxLen) (hr : r.size ≤ maxLen) (hs : s.size ≤ maxLen) :
    Calls Tryd.prog 5 #[.string a, .string r, .string s, .bool false, .bool false] w fun e w' => e = .returned (.bool true) ∧ Below w.heap.size w w' := by
  have H14 : Hid (Calls Tryd.prog 14 #[.string a, .string r, .string s, .bool false, .bool false] w fun e w' => SomeBool e ∧ w' = w) := bytes14 a r s false false w ha hr hs
  unfold maxLen at ha hr hs
  go_enter Tryd.func5, Tryd.ntmps5
  go_wp2_with fail
  refine H14.out.mono ?_
  rintro e w' ⟨⟨bb, rfl⟩, hw⟩
  rw [hw]
  clear hw H14
  cases bb
  · go_wp2; go_ret; exact ⟨rfl, Below.refl _ _⟩
  by_cases q1 : (262144 : Int) < (a.size : Int)
  · go_wp2; go_ret; exact ⟨rfl, Below.refl _ _⟩
  have q1b : decide ((262144 : Int) < (a.size : Int)) = false := decide_eq_false q1
  by_cases q2 : (262144 : Int) < (r.size : Int)
  · go_wp2; go_ret; exact ⟨rfl, Below.refl _ _⟩
  have q2b : decide ((262144 : Int) < (r.size : Int)) = false := decide_eq_false q2
  by_cases q3 : (262144 : Int) < (s.size : Int)
  · go_wp2; go_ret; exact ⟨rfl, Below.refl _ _⟩
  have q3b : decide ((262144 : Int) < (s.size : Int)) = false := decide_eq_false q3
  obtain ⟨i0, hi, hz0, hz1, hz2⟩ := info_parts info5
  obtain ⟨w0, hmk, hown, hgr⟩ := run_make_own (P := Tryd.prog) w w.heap.size 32 5 i0 _ 1 Tryd.underlying32 hi hz0 hz1 .i64 .i64 (2 * (a.size + r.size + s.size) + 64) (by rw [hz2]; omega) (by unfold maxLen; omega) (Nat.le_refl _)
  rw [show (((2 * (a.size + r.size + s.size) + 64 : Nat)) : Int) = 2 * ((a.size : Int) + (r.size : Int) + (s.size : Int)) + 64 from by omega] at hmk
  have hb0 : Below w.heap.size w w0 := (Below.refl _ w).grown hgr (Nat.le_refl _) (fun k hk => by cases hk)
  have hv0 : Buf w0 w.heap.size (.slice (some ⟨w.heap.size, 0, none⟩) 0 (2 * (a.size + r.size + s.size) + 64)) [] := hown
  clear hgr hown hz0 hz1 hz2 hi
  have hz0 := hb0.size
  have hk0 : ([] : List UInt8).length ≤ 0 := Nat.le_refl _
  go_wp2_with (first
    | (at_builtin; first
      | (refine wpList_app_lit _ rfl _ _ rfl w.heap.size _ _ rfl hv5 _ hk5 _ rfl 8 rfl (by omega) hz5 ?_; intro v6 w6 l6 HL6 hk6 hv6 hb6; have hz6 := Nat.le_trans hz5 hb6.size)
      | (refine wpList_app_lit _ rfl _ _ rfl w.heap.size _ _ rfl hv3 _ hk3 _ rfl 11 rfl (by omega) hz3 ?_; intro v4 w4 l4 HL4 hk4 hv4 hb4; have hz4 := Nat.le_trans hz3 hb4.size)
      | (refine wpList_app_lit _ rfl _ _ rfl w.heap.size _ _ rfl hv1 _ hk1 _ rfl 14 rfl (by omega) hz1 ?_; intro v2 w2 l2 HL2 hk2 hv2 hb2; have hz2 := Nat.le_trans hz1 hb2.size)
      | (refine wpList_app_lit _ rfl _ _ rfl w.heap.size _ _ rfl hv0 _ hk0 _ rfl 7 rfl (by omega) hz0 ?_; intro v1 w1 l1 HL1 hk1 hv1 hb1; have hz1 := Nat.le_trans hz0 hb1.size))
    | (go_at_call 15; refine (quoted_lit w.heap.size _ _ _ hk6 s _ hz6 hv6 (by omega) (by omega)).mono ?_; rintro e w7 ⟨v7, l7, rfl, HL7, hk7, hv7, hb7⟩; have hz7 := Nat.le_trans hz6 hb7.size; obtain ⟨tx, htx, hcv⟩ : ∃ tx : ByteArray, Hid (tx.data.toList = l7) ∧ (convert 32 9 v7).run Tryd.prog w7 = .ok (.string tx) w7 := ⟨⟨l7.toArray⟩, rfl, run_buf_string hv7⟩)
    | (go_at_call 15; refine (quoted_lit w.heap.size _ _ _ hk4 r _ hz4 hv4 (by omega) (by omega)).mono ?_; rintro e w5 ⟨v5, l5, rfl, HL5, hk5, hv5, hb5⟩; have hz5 := Nat.le_trans hz4 hb5.size)
    | (go_at_call 15; refine (quoted_lit w.heap.size _ _ _ hk2 a _ hz2 hv2 (by omega) (by omega)).mono ?_; rintro e w3 ⟨v3, l3, rfl, HL3, hk3, hv3, hb3⟩; have hz3 := Nat.le_trans hz2 hb3.size)
    | fail)
  have htxs : tx.size ≤ 16777216 := by
    rw [Lib.size_eq, htx.out]; omega
  have hhd : Hid (tx.data.toList = Pl.header false false a.data.toList r.data.toList s.data.toList) := by
    show _ = _
    rw [htx.out, HL7.out, HL6.out, HL5.out, HL4.out, HL3.out, HL2.out, HL1.out]
    unfold Pl.header
    rw [Pl.rest_split]
    simp [Pl.scheme, Pl.kName]
  have hbel : Below w.heap.size w w7 := ((((((hb0.trans hb1).trans hb2).trans hb3).trans hb4).trans hb5).trans hb6).trans hb7
  have hbelA := hbel.alloc hz7 (.cells #[.string tx] 9)
  clear hcv hmk hv0 hv1 hv2 hv3 hv4 hv5 hv6 hv7 hb0 hb1 hb2 hb3 hb4 hb5 hb6 hb7
  refine (zzparse_walk w7.heap.size tx false false a r s _ (hT.below hbelA) (by simp) (by simp) hhd htxs (by omega) (by omega)).mono ?_
  rintro e w8 ⟨A, R, S, B, rfl, hpc, hb8⟩
  have hbel8 := hbelA.trans (hb8.mono hbelA.size)
  clear hbelA hbel hb8 htx htxs hT hhd HL1 HL2 HL3 HL4 HL5 HL6 HL7 hk0 hk1 hk2 hk3 hk4 hk5 hk6 hk7
  rcases hpc with ⟨h1, rfl, rfl, h4, rfl⟩ | ⟨h1, h2, rfl, rfl, rfl, rfl⟩ | ⟨h1, h2, rfl, rfl, rfl, rfl⟩
  · have hrb : (R.toList == []) = false := by rw [Lib.toList_data]; exact beq_eq_false_iff_ne.2 h1
    have haa : (A.toList == A.toList) = true := beq_self_eq_true _
    have hrr : (R.toList == R.toList) = true := beq_self_eq_true _
    have H4 : Hid (S.data.toList = R.data.toList ++ [47, 46, 100, 101, 102, 97, 117, 108, 116]) := h4
    clear h1 h4
    go_wp2_with (go_at_call 13; refine (isDef_walk S R _ (by omega) H4.out).mono ?_; rintro e w9 ⟨rfl, hw⟩; rw [hw])
    go_ret
    exact ⟨rfl, hbel8⟩
  · have hrb : (r.toList == []) = true := by rw [Lib.toList_data, h1]; rfl
    have htb : ((trimDef S).toList == []) = false := by rw [Lib.toList_data]; exact beq_eq_false_iff_ne.2 h2
    have H16 := fun W => trimDef_walk S W (by omega)
    obtain ⟨T, hTd⟩ : ∃ T, trimDef S = T := ⟨_, rfl⟩
    rw [hTd] at htb H16
    rw [hTd]
    have haa : (A.toList == A.toList) = true := beq_self_eq_true _
    have htt : (T.toList == T.toList) = true := beq_self_eq_true _
    have hss : (S.toList == S.toList) = true := beq_self_eq_true _
    have H16' : Hid (∀ W, Calls Tryd.prog 16 #[.string S] W fun e w' => e = .returned (.string T) ∧ w' = W) := H16
    clear h1 h2 H16 hTd
    go_wp2_with (go_at_call 16; refine (H16'.out _).mono ?_; rintro e w9 ⟨rfl, hw⟩; rw [hw])
    go_ret
    exact ⟨rfl, hbel8⟩
  · have hrb : (r.toList == []) = true := by rw [Lib.toList_data, h1]; rfl
    have htb : ((trimDef s).toList == []) = true := by rw [Lib.toList_data, h2]; rfl
    have H16 := fun W => trimDef_walk s W (by omega)
    obtain ⟨T, hTd⟩ : ∃ T, trimDef s = T := ⟨_, rfl⟩
    rw [hTd] at htb H16
    have H16' : Hid (∀ W, Calls Tryd.prog 16 #[.string s] W fun e w' => e = .returned (.string T) ∧ w' = W) := H16
    clear h1 h2 H16 hTd
    have hee : (ByteArray.empty.toList == []) = true := by rw [Lib.toList_data]; rfl
    go_wp2_with (go_at_call 16; refine (H16'.out _).mono ?_; rintro e w9 ⟨rfl, hw⟩; rw [hw])
    go_ret
    exact ⟨rfl, hbel8⟩

set_option linter.unusedSimpArgs false in
set_option maxRecDepth 100000 in
set_option maxHeartbeats 4000000 in
theorem rb_false_true (a r s : ByteArray) (w : World) (hT : Tabs w) (ha : a.size ≤ maxLen) (hr : r.size ≤ maxLen) (hs : s.size ≤ maxLen) :
    Calls Tryd.prog 5 #[.string a, .string r, .string s, .bool true, .bool false] w fun e w' => e = .returned (.bool true) ∧ Below w.heap.size w w' := by
  have H14 : Hid (Calls Tryd.prog 14 #[.string a, .string r, .string s, .bool true, .bool false] w fun e w' => SomeBool e ∧ w' = w) := bytes14 a r s true false w ha hr hs
  unfold maxLen at ha hr hs
  go_enter Tryd.func5, Tryd.ntmps5
  go_wp2_with fail
  refine H14.out.mono ?_
  rintro e w' ⟨⟨bb, rfl⟩, hw⟩
  rw [hw]
  clear hw H14
  cases bb
  · go_wp2; go_ret; exact ⟨rfl, Below.refl _ _⟩
  by_cases q1 : (262144 : Int) < (a.size : Int)
  · go_wp2; go_ret; exact ⟨rfl, Below.refl _ _⟩
  have q1b : decide ((262144 : Int) < (a.size : Int)) = false := decide_eq_false q1
  by_cases q2 : (262144 : Int) < (r.size : Int)
  · go_wp2; go_ret; exact ⟨rfl, Below.refl _ _⟩
  have q2b : decide ((262144 : Int) < (r.size : Int)) = false := decide_eq_false q2
  by_cases q3 : (262144 : Int) < (s.size : Int)
  · go_wp2; go_ret; exact ⟨rfl, Below.refl _ _⟩
  have q3b : decide ((262144 : Int) < (s.size : Int)) = false := decide_eq_false q3
  obtain ⟨i0, hi, hz0, hz1, hz2⟩ := info_parts info5
  obtain ⟨w0, hmk, hown, hgr⟩ := run_make_own (P := Tryd.prog) w w.heap.size 32 5 i0 _ 1 Tryd.underlying32 hi hz0 hz1 .i64 .i64 (2 * (a.size + r.size + s.size) + 64) (by rw [hz2]; omega) (by unfold maxLen; omega) (Nat.le_refl _)
  rw [show (((2 * (a.size + r.size + s.size) + 64 : Nat)) : Int) = 2 * ((a.size : Int) + (r.size : Int) + (s.size : Int)) + 64 from by omega] at hmk
  have hb0 : Below w.heap.size w w0 := (Below.refl _ w).grown hgr (Nat.le_refl _) (fun k hk => by cases hk)
  have hv0 : Buf w0 w.heap.size (.slice (some ⟨w.heap.size, 0, none⟩) 0 (2 * (a.size + r.size + s.size) + 64)) [] := hown
  clear hgr hown hz0 hz1 hz2 hi
  have hz0 := hb0.size
  have hk0 : ([] : List UInt8).length ≤ 0 := Nat.le_refl _
  go_wp2_with (first
    | (at_builtin; first
      | (refine wpList_app_lit _ rfl _ _ rfl w.heap.size _ _ rfl hv5 _ hk5 _ rfl 8 rfl (by omega) hz5 ?_; intro v6 w6 l6 HL6 hk6 hv6 hb6; have hz6 := Nat.le_trans hz5 hb6.size)
      | (refine wpList_app_lit _ rfl _ _ rfl w.heap.size _ _ rfl hv3 _ hk3 _ rfl 11 rfl (by omega) hz3 ?_; intro v4 w4 l4 HL4 hk4 hv4 hb4; have hz4 := Nat.le_trans hz3 hb4.size)
      | (refine wpList_app_lit _ rfl _ _ rfl w.heap.size _ _ rfl hv1 _ hk1 _ rfl 18 rfl (by omega) hz1 ?_; intro v2 w2 l2 HL2 hk2 hv2 hb2; have hz2 := Nat.le_trans hz1 hb2.size)
      | (refine wpList_app_lit _ rfl _ _ rfl w.heap.size _ _ rfl hv0 _ hk0 _ rfl 7 rfl (by omega) hz0 ?_; intro v1 w1 l1 HL1 hk1 hv1 hb1; have hz1 := Nat.le_trans hz0 hb1.size))
    | (go_at_call 15; refine (quoted_lit w.heap.size _ _ _ hk6 s _ hz6 hv6 (by omega) (by omega)).mono ?_; rintro e w7 ⟨v7, l7, rfl, HL7, hk7, hv7, hb7⟩; have hz7 := Nat.le_trans hz6 hb7.size; obtain ⟨tx, htx, hcv⟩ : ∃ tx : ByteArray, Hid (tx.data.toList = l7) ∧ (convert 32 9 v7).run Tryd.prog w7 = .ok (.string tx) w7 := ⟨⟨l7.toArray⟩, rfl, run_buf_string hv7⟩)
    | (go_at_call 15; refine (quoted_lit w.heap.size _ _ _ hk4 r _ hz4 hv4 (by omega) (by omega)).mono ?_; rintro e w5 ⟨v5, l5, rfl, HL5, hk5, hv5, hb5⟩; have hz5 := Nat.le_trans hz4 hb5.size)
    | (go_at_call 15; refine (quoted_lit w.heap.size _ _ _ hk2 a _ hz2 hv2 (by omega) (by omega)).mono ?_; rintro e w3 ⟨v3, l3, rfl, HL3, hk3, hv3, hb3⟩; have hz3 := Nat.le_trans hz2 hb3.size)
    | fail)
  have htxs : tx.size ≤ 16777216 := by
    rw [Lib.size_eq, htx.out]; omega
  have hhd : Hid (tx.data.toList = Pl.header false true a.data.toList r.data.toList s.data.toList) := by
    show _ = _
    rw [htx.out, HL7.out, HL6.out, HL5.out, HL4.out, HL3.out, HL2.out, HL1.out]
    unfold Pl.header
    rw [Pl.rest_split]
    simp [Pl.scheme, Pl.kName]
  have hbel : Below w.heap.size w w7 := ((((((hb0.trans hb1).trans hb2).trans hb3).trans hb4).trans hb5).trans hb6).trans hb7
  have hbelA := hbel.alloc hz7 (.cells #[.string tx] 9)
  clear hcv hmk hv0 hv1 hv2 hv3 hv4 hv5 hv6 hv7 hb0 hb1 hb2 hb3 hb4 hb5 hb6 hb7
  refine (zzparse_walk w7.heap.size tx false true a r s _ (hT.below hbelA) (by simp) (by simp) hhd htxs (by omega) (by omega)).mono ?_
  rintro e w8 ⟨A, R, S, B, rfl, hpc, hb8⟩
  have hbel8 := hbelA.trans (hb8.mono hbelA.size)
  clear hbelA hbel hb8 htx htxs hT hhd HL1 HL2 HL3 HL4 HL5 HL6 HL7 hk0 hk1 hk2 hk3 hk4 hk5 hk6 hk7
  rcases hpc with ⟨h1, rfl, rfl, h4, rfl⟩ | ⟨h1, h2, rfl, rfl, rfl, rfl⟩ | ⟨h1, h2, rfl, rfl, rfl, rfl⟩
  · have hrb : (R.toList == []) = false := by rw [Lib.toList_data]; exact beq_eq_false_iff_ne.2 h1
    have haa : (A.toList == A.toList) = true := beq_self_eq_true _
    have hrr : (R.toList == R.toList) = true := beq_self_eq_true _
    have H4 : Hid (S.data.toList = R.data.toList ++ [47, 46, 100, 101, 102, 97, 117, 108, 116]) := h4
    clear h1 h4
    go_wp2_with (go_at_call 13; refine (isDef_walk S R _ (by omega) H4.out).mono ?_; rintro e w9 ⟨rfl, hw⟩; rw [hw])
    go_ret
    exact ⟨rfl, hbel8⟩
  · have hrb : (r.toList == []) = true := by rw [Lib.toList_data, h1]; rfl
    have htb : ((trimDef S).toList == []) = false := by rw [Lib.toList_data]; exact beq_eq_false_iff_ne.2 h2
    have H16 := fun W => trimDef_walk S W (by omega)
    obtain ⟨T, hTd⟩ : ∃ T, trimDef S = T := ⟨_, rfl⟩
    rw [hTd] at htb H16
    rw [hTd]
    have haa : (A.toList == A.toList) = true := beq_self_eq_true _
    have htt : (T.toList == T.toList) = true := beq_self_eq_true _
    have hss : (S.toList == S.toList) = true := beq_self_eq_true _
    have H16' : Hid (∀ W, Calls Tryd.prog 16 #[.string S] W fun e w' => e = .returned (.string T) ∧ w' = W) := H16
    clear h1 h2 H16 hTd
    go_wp2_with (go_at_call 16; refine (H16'.out _).mono ?_; rintro e w9 ⟨rfl, hw⟩; rw [hw])
    go_ret
    exact ⟨rfl, hbel8⟩
  · have hrb : (r.toList == []) = true := by rw [Lib.toList_data, h1]; rfl
    have htb : ((trimDef s).toList == []) = true := by rw [Lib.toList_data, h2]; rfl
    have H16 := fun W => trimDef_walk s W (by omega)
    obtain ⟨T, hTd⟩ : ∃ T, trimDef s = T := ⟨_, rfl⟩
    rw [hTd] at htb H16
    have H16' : Hid (∀ W, Calls Tryd.prog 16 #[.string s] W fun e w' => e = .returned (.string T) ∧ w' = W) := H16
    clear h1 h2 H16 hTd
    have hee : (ByteArray.empty.toList == []) = true := by rw [Lib.toList_data]; rfl
    go_wp2_with (go_at_call 16; refine (H16'.out _).mono ?_; rintro e w9 ⟨rfl, hw⟩; rw [hw])
    go_ret
    exact ⟨rfl, hbel8⟩

set_option linter.unusedSimpArgs false in
set_option maxRecDepth 100000 in
set_option maxHeartbeats 4000000 in
theorem rb_true_false (a r s : ByteArray) (w : World) (hT : Tabs w) (ha : a.size ≤ maxLen) (hr : r.size ≤ maxLen) (hs : s.size ≤ maxLen) :
    Calls Tryd.prog 5 #[.string a, .string r, .string s, .bool false, .bool true] w fun e w' => e = .returned (.bool true) ∧ Below w.heap.size w w' := by
  have H14 : Hid (Calls Tryd.prog 14 #[.string a, .string r, .string s, .bool false, .bool true] w fun e w' => SomeBool e ∧ w' = w) := bytes14 a r s false true w ha hr hs
  unfold maxLen at ha hr hs
  go_enter Tryd.func5, Tryd.ntmps5
  go_wp2_with fail
  refine H14.out.mono ?_
  rintro e w' ⟨⟨bb, rfl⟩, hw⟩
  rw [hw]
  clear hw H14
  cases bb
  · go_wp2; go_ret; exact ⟨rfl, Below.refl _ _⟩
  by_cases q1 : (262144 : Int) < (a.size : Int)
  · go_wp2; go_ret; exact ⟨rfl, Below.refl _ _⟩
  have q1b : decide ((262144 : Int) < (a.size : Int)) = false := decide_eq_false q1
  by_cases q2 : (262144 : Int) < (r.size : Int)
  · go_wp2; go_ret; exact ⟨rfl, Below.refl _ _⟩
  have q2b : decide ((262144 : Int) < (r.size : Int)) = false := decide_eq_false q2
  by_cases q3 : (262144 : Int) < (s.size : Int)
  · go_wp2; go_ret; exact ⟨rfl, Below.refl _ _⟩
  have q3b : decide ((262144 : Int) < (s.size : Int)) = false := decide_eq_false q3
  obtain ⟨i0, hi, hz0, hz1, hz2⟩ := info_parts info5
  obtain ⟨w0, hmk, hown, hgr⟩ := run_make_own (P := Tryd.prog) w w.heap.size 32 5 i0 _ 1 Tryd.underlying32 hi hz0 hz1 .i64 .i64 (2 * (a.size + r.size + s.size) + 64) (by rw [hz2]; omega) (by unfold maxLen; omega) (Nat.le_refl _)
  rw [show (((2 * (a.size + r.size + s.size) + 64 : Nat)) : Int) = 2 * ((a.size : Int) + (r.size : Int) + (s.size : Int)) + 64 from by omega] at hmk
  have hb0 : Below w.heap.size w w0 := (Below.refl _ w).grown hgr (Nat.le_refl _) (fun k hk => by cases hk)
  have hv0 : Buf w0 w.heap.size (.slice (some ⟨w.heap.size, 0, none⟩) 0 (2 * (a.size + r.size + s.size) + 64)) [] := hown
  clear hgr hown hz0 hz1 hz2 hi
  have hz0 := hb0.size
  have hk0 : ([] : List UInt8).length ≤ 0 := Nat.le_refl _
  go_wp2_with (first
    | (at_builtin; first
      | (refine wpList_app_lit _ rfl _ _ rfl w.heap.size _ _ rfl hv5 _ hk5 _ rfl 8 rfl (by omega) hz5 ?_; intro v6 w6 l6 HL6 hk6 hv6 hb6; have hz6 := Nat.le_trans hz5 hb6.size)
      | (refine wpList_app_lit _ rfl _ _ rfl w.heap.size _ _ rfl hv3 _ hk3 _ rfl 11 rfl (by omega) hz3 ?_; intro v4 w4 l4 HL4 hk4 hv4 hb4; have hz4 := Nat.le_trans hz3 hb4.size)
      | (refine wpList_app_lit _ rfl _ _ rfl w.heap.size _ _ rfl hv1 _ hk1 _ rfl 14 rfl (by omega) hz1 ?_; intro v2 w2 l2 HL2 hk2 hv2 hb2; have hz2 := Nat.le_trans hz1 hb2.size)
      | (refine wpList_app_lit _ rfl _ _ rfl w.heap.size _ _ rfl hv0 _ hk0 _ rfl 7 rfl (by omega) hz0 ?_; intro v1 w1 l1 HL1 hk1 hv1 hb1; have hz1 := Nat.le_trans hz0 hb1.size))
    | (go_at_call 15; refine (quoted_lit w.heap.size _ _ _ hk6 s _ hz6 hv6 (by omega) (by omega)).mono ?_; rintro e w7 ⟨v7, l7, rfl, HL7, hk7, hv7, hb7⟩; have hz7 := Nat.le_trans hz6 hb7.size; obtain ⟨tx, htx, hcv⟩ : ∃ tx : ByteArray, Hid (tx.data.toList = l7) ∧ (convert 32 9 v7).run Tryd.prog w7 = .ok (.string tx) w7 := ⟨⟨l7.toArray⟩, rfl, run_buf_string hv7⟩)
    | (go_at_call 15; refine (quoted_lit w.heap.size _ _ _ hk4 r _ hz4 hv4 (by omega) (by omega)).mono ?_; rintro e w5 ⟨v5, l5, rfl, HL5, hk5, hv5, hb5⟩; have hz5 := Nat.le_trans hz4 hb5.size)
    | (go_at_call 15; refine (quoted_lit w.heap.size _ _ _ hk2 a _ hz2 hv2 (by omega) (by omega)).mono ?_; rintro e w3 ⟨v3, l3, rfl, HL3, hk3, hv3, hb3⟩; have hz3 := Nat.le_trans hz2 hb3.size)
    | fail)
  have htxs : tx.size ≤ 16777216 := by
    rw [Lib.size_eq, htx.out]; omega
  have hhd : Hid (tx.data.toList = Pl.header true false a.data.toList r.data.toList s.data.toList) := by
    show _ = _
    rw [htx.out, HL7.out, HL6.out, HL5.out, HL4.out, HL3.out, HL2.out, HL1.out]
    unfold Pl.header
    rw [Pl.rest_split]
    simp [Pl.scheme, Pl.kName]
  have hbel : Below w.heap.size w w7 := ((((((hb0.trans hb1).trans hb2).trans hb3).trans hb4).trans hb5).trans hb6).trans hb7
  have hbelA := hbel.alloc hz7 (.cells #[.string tx] 9)
  clear hcv hmk hv0 hv1 hv2 hv3 hv4 hv5 hv6 hv7 hb0 hb1 hb2 hb3 hb4 hb5 hb6 hb7
  refine (zzparse_walk w7.heap.size tx true false a r s _ (hT.below hbelA) (by simp) (by simp) hhd htxs (by omega) (by omega)).mono ?_
  rintro e w8 ⟨A, R, S, B, rfl, hpc, hb8⟩
  have hbel8 := hbelA.trans (hb8.mono hbelA.size)
  clear hbelA hbel hb8 htx htxs hT hhd HL1 HL2 HL3 HL4 HL5 HL6 HL7 hk0 hk1 hk2 hk3 hk4 hk5 hk6 hk7
  rcases hpc with ⟨h1, rfl, rfl, h4, rfl⟩ | ⟨h1, h2, rfl, rfl, rfl, rfl⟩ | ⟨h1, h2, rfl, rfl, rfl, rfl⟩
  · have hrb : (R.toList == []) = false := by rw [Lib.toList_data]; exact beq_eq_false_iff_ne.2 h1
    have haa : (A.toList == A.toList) = true := beq_self_eq_true _
    have hrr : (R.toList == R.toList) = true := beq_self_eq_true _
    have H4 : Hid (S.data.toList = R.data.toList ++ [47, 46, 100, 101, 102, 97, 117, 108, 116]) := h4
    clear h1 h4
    go_wp2_with (go_at_call 13; refine (isDef_walk S R _ (by omega) H4.out).mono ?_; rintro e w9 ⟨rfl, hw⟩; rw [hw])
    go_ret
    exact ⟨rfl, hbel8⟩
  · have hrb : (r.toList == []) = true := by rw [Lib.toList_data, h1]; rfl
    have htb : ((trimDef S).toList == []) = false := by rw [Lib.toList_data]; exact beq_eq_false_iff_ne.2 h2
    have H16 := fun W => trimDef_walk S W (by omega)
    obtain ⟨T, hTd⟩ : ∃ T, trimDef S = T := ⟨_, rfl⟩
    rw [hTd] at htb H16
    rw [hTd]
    have haa : (A.toList == A.toList) = true := beq_self_eq_true _
    have htt : (T.toList == T.toList) = true := beq_self_eq_true _
    have hss : (S.toList == S.toList) = true := beq_self_eq_true _
    have H16' : Hid (∀ W, Calls Tryd.prog 16 #[.string S] W fun e w' => e = .returned (.string T) ∧ w' = W) := H16
    clear h1 h2 H16 hTd
    go_wp2_with (go_at_call 16; refine (H16'.out _).mono ?_; rintro e w9 ⟨rfl, hw⟩; rw [hw])
    go_ret
    exact ⟨rfl, hbel8⟩
  · have hrb : (r.toList == []) = true := by rw [Lib.toList_data, h1]; rfl
    have htb : ((trimDef s).toList == []) = true := by rw [Lib.toList_data, h2]; rfl
    have H16 := fun W => trimDef_walk s W (by omega)
    obtain ⟨T, hTd⟩ : ∃ T, trimDef s = T := ⟨_, rfl⟩
    rw [hTd] at htb H16
    have H16' : Hid (∀ W, Calls Tryd.prog 16 #[.string s] W fun e w' => e = .returned (.string T) ∧ w' = W) := H16
    clear h1 h2 H16 hTd
    have hee : (ByteArray.empty.toList == []) = true := by rw [Lib.toList_data]; rfl
    go_wp2_with (go_at_call 16; refine (H16'.out _).mono ?_; rintro e w9 ⟨rfl, hw⟩; rw [hw])
    go_ret
    exact ⟨rfl, hbel8⟩

set_option linter.unusedSimpArgs false in
set_option maxRecDepth 100000 in
set_option maxHeartbeats 4000000 in
theorem rb_true_true (a r s : ByteArray) (w : World) (hT : Tabs w) (ha : a.size ≤ maxLen) (hr : r.size ≤ maxLen) (hs : s.size ≤ maxLen) :
    Calls Tryd.prog 5 #[.string a, .string r, .string s, .bool true, .bool true] w fun e w' => e = .returned (.bool true) ∧ Below w.heap.size w w' := by
  have H14 : Hid (Calls Tryd.prog 14 #[.string a, .string r, .string s, .bool true, .bool true] w fun e w' => SomeBool e ∧ w' = w) := bytes14 a r s true true w ha hr hs
  unfold maxLen at ha hr hs
  go_enter Tryd.func5, Tryd.ntmps5
  go_wp2_with fail
  refine H14.out.mono ?_
  rintro e w' ⟨⟨bb, rfl⟩, hw⟩
  rw [hw]
  clear hw H14
  cases bb
  · go_wp2; go_ret; exact ⟨rfl, Below.refl _ _⟩
  by_cases q1 : (262144 : Int) < (a.size : Int)
  · go_wp2; go_ret; exact ⟨rfl, Below.refl _ _⟩
  have q1b : decide ((262144 : Int) < (a.size : Int)) = false := decide_eq_false q1
  by_cases q2 : (262144 : Int) < (r.size : Int)
  · go_wp2; go_ret; exact ⟨rfl, Below.refl _ _⟩
  have q2b : decide ((262144 : Int) < (r.size : Int)) = false := decide_eq_false q2
  by_cases q3 : (262144 : Int) < (s.size : Int)
  · go_wp2; go_ret; exact ⟨rfl, Below.refl _ _⟩
  have q3b : decide ((262144 : Int) < (s.size : Int)) = false := decide_eq_false q3
  obtain ⟨i0, hi, hz0, hz1, hz2⟩ := info_parts info5
  obtain ⟨w0, hmk, hown, hgr⟩ := run_make_own (P := Tryd.prog) w w.heap.size 32 5 i0 _ 1 Tryd.underlying32 hi hz0 hz1 .i64 .i64 (2 * (a.size + r.size + s.size) + 64) (by rw [hz2]; omega) (by unfold maxLen; omega) (Nat.le_refl _)
  rw [show (((2 * (a.size + r.size + s.size) + 64 : Nat)) : Int) = 2 * ((a.size : Int) + (r.size : Int) + (s.size : Int)) + 64 from by omega] at hmk
  have hb0 : Below w.heap.size w w0 := (Below.refl _ w).grown hgr (Nat.le_refl _) (fun k hk => by cases hk)
  have hv0 : Buf w0 w.heap.size (.slice (some ⟨w.heap.size, 0, none⟩) 0 (2 * (a.size + r.size + s.size) + 64)) [] := hown
  clear hgr hown hz0 hz1 hz2 hi
  have hz0 := hb0.size
  have hk0 : ([] : List UInt8).length ≤ 0 := Nat.le_refl _
  go_wp2_with (first
    | (at_builtin; first
      | (refine wpList_app_lit _ rfl _ _ rfl w.heap.size _ _ rfl hv5 _ hk5 _ rfl 8 rfl (by omega) hz5 ?_; intro v6 w6 l6 HL6 hk6 hv6 hb6; have hz6 := Nat.le_trans hz5 hb6.size)
      | (refine wpList_app_lit _ rfl _ _ rfl w.heap.size _ _ rfl hv3 _ hk3 _ rfl 11 rfl (by omega) hz3 ?_; intro v4 w4 l4 HL4 hk4 hv4 hb4; have hz4 := Nat.le_trans hz3 hb4.size)
      | (refine wpList_app_lit _ rfl _ _ rfl w.heap.size _ _ rfl hv1 _ hk1 _ rfl 18 rfl (by omega) hz1 ?_; intro v2 w2 l2 HL2 hk2 hv2 hb2; have hz2 := Nat.le_trans hz1 hb2.size)
      | (refine wpList_app_lit _ rfl _ _ rfl w.heap.size _ _ rfl hv0 _ hk0 _ rfl 7 rfl (by omega) hz0 ?_; intro v1 w1 l1 HL1 hk1 hv1 hb1; have hz1 := Nat.le_trans hz0 hb1.size))
    | (go_at_call 15; refine (quoted_lit w.heap.size _ _ _ hk6 s _ hz6 hv6 (by omega) (by omega)).mono ?_; rintro e w7 ⟨v7, l7, rfl, HL7, hk7, hv7, hb7⟩; have hz7 := Nat.le_trans hz6 hb7.size; obtain ⟨tx, htx, hcv⟩ : ∃ tx : ByteArray, Hid (tx.data.toList = l7) ∧ (convert 32 9 v7).run Tryd.prog w7 = .ok (.string tx) w7 := ⟨⟨l7.toArray⟩, rfl, run_buf_string hv7⟩)
    | (go_at_call 15; refine (quoted_lit w.heap.size _ _ _ hk4 r _ hz4 hv4 (by omega) (by omega)).mono ?_; rintro e w5 ⟨v5, l5, rfl, HL5, hk5, hv5, hb5⟩; have hz5 := Nat.le_trans hz4 hb5.size)
    | (go_at_call 15; refine (quoted_lit w.heap.size _ _ _ hk2 a _ hz2 hv2 (by omega) (by omega)).mono ?_; rintro e w3 ⟨v3, l3, rfl, HL3, hk3, hv3, hb3⟩; have hz3 := Nat.le_trans hz2 hb3.size)
    | fail)
  have htxs : tx.size ≤ 16777216 := by
    rw [Lib.size_eq, htx.out]; omega
  have hhd : Hid (tx.data.toList = Pl.header true true a.data.toList r.data.toList s.data.toList) := by
    show _ = _
    rw [htx.out, HL7.out, HL6.out, HL5.out, HL4.out, HL3.out, HL2.out, HL1.out]
    unfold Pl.header
    rw [Pl.rest_split]
    simp [Pl.scheme, Pl.kName]
  have hbel : Below w.heap.size w w7 := ((((((hb0.trans hb1).trans hb2).trans hb3).trans hb4).trans hb5).trans hb6).trans hb7
  have hbelA := hbel.alloc hz7 (.cells #[.string tx] 9)
  clear hcv hmk hv0 hv1 hv2 hv3 hv4 hv5 hv6 hv7 hb0 hb1 hb2 hb3 hb4 hb5 hb6 hb7
  refine (zzparse_walk w7.heap.size tx true true a r s _ (hT.below hbelA) (by simp) (by simp) hhd htxs (by omega) (by omega)).mono ?_
  rintro e w8 ⟨A, R, S, B, rfl, hpc, hb8⟩
  have hbel8 := hbelA.trans (hb8.mono hbelA.size)
  clear hbelA hbel hb8 htx htxs hT hhd HL1 HL2 HL3 HL4 HL5 HL6 HL7 hk0 hk1 hk2 hk3 hk4 hk5 hk6 hk7
  rcases hpc with ⟨h1, rfl, rfl, h4, rfl⟩ | ⟨h1, h2, rfl, rfl, rfl, rfl⟩ | ⟨h1, h2, rfl, rfl, rfl, rfl⟩
  · have hrb : (R.toList == []) = false := by rw [Lib.toList_data]; exact beq_eq_false_iff_ne.2 h1
    have haa : (A.toList == A.toList) = true := beq_self_eq_true _
    have hrr : (R.toList == R.toList) = true := beq_self_eq_true _
    have H4 : Hid (S.data.toList = R.data.toList ++ [47, 46, 100, 101, 102, 97, 117, 108, 116]) := h4
    clear h1 h4
    go_wp2_with (go_at_call 13; refine (isDef_walk S R _ (by omega) H4.out).mono ?_; rintro e w9 ⟨rfl, hw⟩; rw [hw])
    go_ret
    exact ⟨rfl, hbel8⟩
  · have hrb : (r.toList == []) = true := by rw [Lib.toList_data, h1]; rfl
    have htb : ((trimDef S).toList == []) = false := by rw [Lib.toList_data]; exact beq_eq_false_iff_ne.2 h2
    have H16 := fun W => trimDef_walk S W (by omega)
    obtain ⟨T, hTd⟩ : ∃ T, trimDef S = T := ⟨_, rfl⟩
    rw [hTd] at htb H16
    rw [hTd]
    have haa : (A.toList == A.toList) = true := beq_self_eq_true _
    have htt : (T.toList == T.toList) = true := beq_self_eq_true _
    have hss : (S.toList == S.toList) = true := beq_self_eq_true _
    have H16' : Hid (∀ W, Calls Tryd.prog 16 #[.string S] W fun e w' => e = .returned (.string T) ∧ w' = W) := H16
    clear h1 h2 H16 hTd
    go_wp2_with (go_at_call 16; refine (H16'.out _).mono ?_; rintro e w9 ⟨rfl, hw⟩; rw [hw])
    go_ret
    exact ⟨rfl, hbel8⟩
  · have hrb : (r.toList == []) = true := by rw [Lib.toList_data, h1]; rfl
    have htb : ((trimDef s).toList == []) = true := by rw [Lib.toList_data, h2]; rfl
    have H16 := fun W => trimDef_walk s W (by omega)
    obtain ⟨T, hTd⟩ : ∃ T, trimDef s = T := ⟨_, rfl⟩
    rw [hTd] at htb H16
    have H16' : Hid (∀ W, Calls Tryd.prog 16 #[.string s] W fun e w' => e = .returned (.string T) ∧ w' = W) := H16
    clear h1 h2 H16 hTd
    have hee : (ByteArray.empty.toList == []) = true := by rw [Lib.toList_data]; rfl
    go_wp2_with (go_at_call 16; refine (H16'.out _).mono ?_; rintro e w9 ⟨rfl, hw⟩; rw [hw])
    go_ret
    exact ⟨rfl, hbel8⟩
end Go.Proofs.Qxb6606102aDoor
