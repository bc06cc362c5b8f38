import Derived.Test.Qxb6614551aDoorNextPreB
import Derived.Test.Qxb6614551aDoorPredsD
namespace Go.Proofs.Qxb6614551aDoor
open Go.RowKit

/-- what scanner.next does (shown in NextAll) -/
def NextW : Prop := ∀ (bs : Nat) (f S : ByteArray) (o ln ls : Nat) (w : World), Sc w bs f S o ln ls → o ≤ S.size → S.size ≤ 16777216 → ln ≤ o + 1 → ls ≤ o →
  (∀ W, Kp bs w W → Lib.Utf8Tabs (Tryd.lays197_ren.g 3) (Tryd.lays197_ren.g 4) W) → Calls Tryd.prog 17 #[.pointer (some ⟨bs, 0, none⟩)] w fun e w' => NextOut bs f S o w e w'
/-- the tables stand in every world that keeps what lies below B -/
def UT (B : Nat) (w : World) : Prop := ∀ W, Below B w W → Lib.Utf8Tabs (Tryd.lays197_ren.g 3) (Tryd.lays197_ren.g 4) W
theorem UT.mono {B : Nat} {w w' : World} (h : UT B w) (hb : Below B w w') : UT B w' := fun W hW => h W (hb.trans hW)

/-- the parser's block -/
def PB (W : World) (bp bs : Nat) (K : Nat) (T pf : ByteArray) (pl pc : Int) (pe : Value) : Prop :=
  W.heap[bp]? = some (.cells #[.int .i64 (K : Int), .string T, .string pf, .int .i64 pl, .int .i64 pc, .pointer (some ⟨bs, 0, none⟩), pe] 36)
theorem PB.lt {W : World} {bp bs K : Nat} {T pf : ByteArray} {pl pc : Int} {pe : Value} (h : PB W bp bs K T pf pl pc pe) : bp < W.heap.size := (Array.getElem?_eq_some_iff.1 h).1
theorem PB.tok {W : World} {bp bs K : Nat} {T pf : ByteArray} {pl pc : Int} {pe : Value} (h : PB W bp bs K T pf pl pc pe) (K' : Nat) (T' pf' : ByteArray) (pl' pc' : Int) :
    PB (((((W.setCell ⟨bp, 0, none⟩ (.int .i64 (K' : Int))).setCell ⟨bp, 1, none⟩ (.string T')).setCell ⟨bp, 2, none⟩ (.string pf')).setCell ⟨bp, 3, none⟩ (.int .i64 pl')).setCell ⟨bp, 4, none⟩ (.int .i64 pc')) bp bs K' T' pf' pl' pc' pe := by
  unfold PB at h ⊢
  simp only [World.setCell, Array.getElem?_modify, if_true, h]
  rfl
/-- a parser at block bp: its token's kind and text, and what is left to scan -/
structure PS (W : World) (B bp : Nat) (R : List UInt8) (K : Nat) (t : List UInt8) : Prop where
  ex : ∃ (bs : Nat) (pf : ByteArray) (pl pc : Int) (pe : Value) (f S : ByteArray) (o ln ls : Nat), PB W bp bs K ⟨t.toArray⟩ pf pl pc pe ∧ Sc W bs f S o ln ls ∧ bs ≠ bp ∧ B ≤ bs ∧ B ≤ bp ∧ o ≤ S.size ∧ S.size ≤ 16777216 ∧ ln ≤ o + 1 ∧ ls ≤ o ∧ S.data.toList.drop o = R
theorem PS.lt {W : World} {B bp : Nat} {R : List UInt8} {K : Nat} {t : List UInt8} (h : PS W B bp R K t) : bp < W.heap.size := by
  obtain ⟨_, _, _, _, _, _, _, _, _, _, hp, _⟩ := h.ex
  exact hp.lt
theorem PS.le {W : World} {B bp : Nat} {R : List UInt8} {K : Nat} {t : List UInt8} (h : PS W B bp R K t) : B ≤ bp := by
  obtain ⟨_, _, _, _, _, _, _, _, _, _, _, _, _, _, hb, _⟩ := h.ex
  exact hb
theorem PS.below {W W' : World} {B bp : Nat} {R : List UInt8} {K : Nat} {t : List UInt8} (h : PS W B bp R K t) (hb : Below W.heap.size W W') : PS W' B bp R K t := by
  obtain ⟨bs, pf, pl, pc, pe, f, S, o, ln, ls, hp, hs, r⟩ := h.ex
  exact ⟨⟨bs, pf, pl, pc, pe, f, S, o, ln, ls, (hb.block _ hp.lt).trans hp, hs.below hb, r⟩⟩
theorem PS.c0 {W : World} {B bp : Nat} {R : List UInt8} {K : Nat} {t : List UInt8} (h : PS W B bp R K t) : W.cell? ⟨bp, 0, none⟩ = some (.int .i64 (K : Int)) := by
  obtain ⟨_, _, _, _, _, _, _, _, _, _, hp, _⟩ := h.ex
  exact blk_cell hp 0
theorem PS.c1 {W : World} {B bp : Nat} {R : List UInt8} {K : Nat} {t : List UInt8} (h : PS W B bp R K t) : W.cell? ⟨bp, 1, none⟩ = some (.string ⟨t.toArray⟩) := by
  obtain ⟨_, _, _, _, _, _, _, _, _, _, hp, _⟩ := h.ex
  exact blk_cell hp 1
theorem list_arr (T : ByteArray) (t : List UInt8) (h : T.data.toList = t) : T = ⟨t.toArray⟩ := by subst h; rfl

set_option maxRecDepth 100000 in
set_option maxHeartbeats 1000000 in
theorem next15 (hN : NextW) {B bp : Nat} {R : List UInt8} {K : Nat} {t : List UInt8} {w : World} (hP : PS w B bp R K t) (hU : UT B w) (K' : Nat) (t' : List UInt8) (n : Nat) (hsc : Hid (Pl.scan R = (K', t', n))) :
    Calls Tryd.prog 15 #[.pointer (some ⟨bp, 0, none⟩)] w fun e w' => e = .returned (.tuple #[]) ∧ PS w' B bp (R.drop n) K' t' ∧ Below B w w' := by
  obtain ⟨bs, pf, pl, pc, pe, f, S, o, ln, ls, hp, hs, hne, hB1, hB2, ho, hS, hln, hls, hR⟩ := hP.ex
  have hbsz : B ≤ w.heap.size := Nat.le_trans hB2 (Nat.le_of_lt hp.lt)
  have hcall := hN bs f S o ln ls w hs ho hS hln hls (fun W hk => hU W (hk.below hB1 hbsz))
  have hc5 : w.cell? ⟨bp, 5, none⟩ = some (.pointer (some ⟨bs, 0, none⟩)) := blk_cell hp 5
  have HS : Hid (Pl.scan (S.data.toList.drop o) = (K', t', n)) := by show _ = _; rw [hR]; exact hsc.out
  have HR : Hid (S.data.toList.drop o = R) := hR
  have HP : Hid (PB w bp bs K ⟨t.toArray⟩ pf pl pc pe) := hp
  have hbplt := hp.lt
  clear hR hsc hp hP
  go_enter Tryd.func15, Tryd.ntmps15
  go_wp2_with (go_at_call 17; refine hcall.mono ?_; rintro e w' ⟨K1, T1, o1, ln1, ls1, pf1, pl1, pc1, rfl, hK1, hT1, ho1, ho1s, hln1, hls1, hsc1, hkp1⟩; have HK1 : Hid (K1 = _) := hK1; have HT1 : Hid (T1.data.toList = _) := hT1; have HO1 : Hid (o1 = _) := ho1; clear hK1 hT1 ho1; have hpw : PB w' bp bs K ⟨t.toArray⟩ pf pl pc pe := (hkp1.block bp hbplt (Ne.symm hne)).trans HP.out; have hq0 := blk_cell hpw 0; have hq1 := blk_cell hpw 1; have hq2 := blk_cell hpw 2; have hq3 := blk_cell hpw 3; have hq4 := blk_cell hpw 4; have hz0 := blk_frozen hpw 0; have hz1 := blk_frozen hpw 1; have hz2 := blk_frozen hpw 2; have hz3 := blk_frozen hpw 3; have hz4 := blk_frozen hpw 4)
  go_end0
  have e := HS.out
  have hK' : K1 = K' := by rw [HK1.out, e]
  have hT' : T1 = ⟨t'.toArray⟩ := list_arr _ _ (by rw [HT1.out, e])
  have ho' : o1 = o + n := by rw [HO1.out, e]
  subst hK' hT' ho'
  refine ⟨rfl, ⟨⟨bs, pf1, pl1, pc1, pe, f, S, o + n, ln1, ls1, hpw.tok _ _ _ _ _, ?_, hne, hB1, hB2, ho1s, hS, hln1, hls1, by rw [← List.drop_drop, HR.out]⟩⟩, ?_⟩
  · exact (((((hsc1.other (p := ⟨bp, 0, none⟩) hne _).other (p := ⟨bp, 1, none⟩) hne _).other (p := ⟨bp, 2, none⟩) hne _).other (p := ⟨bp, 3, none⟩) hne _).other (p := ⟨bp, 4, none⟩) hne _)
  · exact ((((((hkp1.below hB1 hbsz).setCell (p := ⟨bp, 0, none⟩) hB2 _).setCell (p := ⟨bp, 1, none⟩) hB2 _).setCell (p := ⟨bp, 2, none⟩) hB2 _).setCell (p := ⟨bp, 3, none⟩) hB2 _).setCell (p := ⟨bp, 4, none⟩) hB2 _)

set_option maxRecDepth 100000 in
set_option maxHeartbeats 1000000 in
theorem new9 (hN : NextW) (S : ByteArray) (w : World) (hS : S.size ≤ 16777216) (hU : UT w.heap.size w) (K' : Nat) (t' : List UInt8) (n : Nat) (hsc : Hid (Pl.scan S.data.toList = (K', t', n))) :
    Calls Tryd.prog 9 #[.string S] w fun e w' => ∃ bp, e = .returned (.pointer (some ⟨bp, 0, none⟩)) ∧ PS w' w.heap.size bp (S.data.toList.drop n) K' t' ∧ Below w.heap.size w w' := by
  go_enter Tryd.func9, Tryd.ntmps9
  go_wp2_with fail
  obtain ⟨w3, hw3⟩ : ∃ w3, ((w.alloc (.cells #[.string ⟨#[]⟩, .string S, .int .i64 0, .int .i64 1, .int .i64 0] 40)).alloc (.cells #[] 88)).alloc (.cells #[.slice (some ⟨w.heap.size + 1, 0, none⟩) 0 0] 42) = w3 := ⟨_, rfl⟩
  have hsz : w3.heap.size = w.heap.size + 1 + 1 + 1 := by rw [← hw3]; simp
  have hs0 : Sc w3 w.heap.size ⟨#[]⟩ S 0 1 0 := by rw [← hw3]; exact (Sc.alloc (show Sc (w.alloc _) w.heap.size ⟨#[]⟩ S 0 1 0 from alloc_at _ _) _).alloc _
  have hB0 : Below w.heap.size w w3 := by rw [← hw3]; exact (((Below.refl _ w).alloc (Nat.le_refl _) _).alloc (by simp) _).alloc (by simp; omega) _
  rw [hw3, ← hsz]
  clear hw3
  have hP : PS (w3.alloc (.cells #[.int .i64 0, .string ⟨#[]⟩, .string ⟨#[]⟩, .int .i64 0, .int .i64 0, .pointer (some ⟨w.heap.size, 0, none⟩), .pointer (some ⟨w.heap.size + 1 + 1, 0, none⟩)] 36)) w.heap.size w3.heap.size S.data.toList 0 [] :=
    ⟨⟨w.heap.size, ⟨#[]⟩, 0, 0, _, ⟨#[]⟩, S, 0, 1, 0, alloc_at _ _, hs0.alloc _, by omega, Nat.le_refl _, by omega, Nat.zero_le _, hS, Nat.le_refl _, Nat.le_refl _, rfl⟩⟩
  have hB4 : Below w.heap.size w (w3.alloc (.cells #[.int .i64 0, .string ⟨#[]⟩, .string ⟨#[]⟩, .int .i64 0, .int .i64 0, .pointer (some ⟨w.heap.size, 0, none⟩), .pointer (some ⟨w.heap.size + 1 + 1, 0, none⟩)] 36)) := hB0.alloc (by omega) _
  refine (next15 hN hP (hU.mono hB4) K' t' n hsc).mono ?_
  rintro e w' ⟨rfl, hP', hB'⟩
  go_wp2
  go_ret
  rw [hsz] at hP'
  exact ⟨_, rfl, hP', hB4.trans hB'⟩

set_option maxRecDepth 100000 in
set_option maxHeartbeats 1000000 in
theorem acc_no {B bp : Nat} {R : List UInt8} {t : List UInt8} {w : World} (hP : PS w B bp R 4 t) (T P : ByteArray) (hT : (⟨t.toArray⟩ : ByteArray) = T) (hTP : (T.toList == P.toList) = false) :
    Calls Tryd.prog 18 #[.pointer (some ⟨bp, 0, none⟩), .string P] w fun e w' => e = .returned (.bool false) ∧ w' = w := by
  have hc0 := hP.c0
  have hc1 := hP.c1
  rw [hT] at hc1
  clear hP hT
  go_enter Tryd.func18, Tryd.ntmps18
  go_wp2_with fail
  go_ret
  exact ⟨rfl, rfl⟩

set_option maxRecDepth 100000 in
set_option maxHeartbeats 1000000 in
theorem acc_yes (hN : NextW) {B bp : Nat} {R : List UInt8} {t : List UInt8} {w : World} (hP : PS w B bp R 4 t) (hU : UT B w) (K' : Nat) (t' : List UInt8) (n : Nat) (hsc : Hid (Pl.scan R = (K', t', n))) (P : ByteArray) (hT : (⟨t.toArray⟩ : ByteArray) = P) :
    Calls Tryd.prog 18 #[.pointer (some ⟨bp, 0, none⟩), .string P] w fun e w' => e = .returned (.bool true) ∧ PS w' B bp (R.drop n) K' t' ∧ Below B w w' := by
  have hc0 := hP.c0
  have hc1 := hP.c1
  rw [hT] at hc1
  have hcall := next15 hN hP hU K' t' n hsc
  have hTT : (P.toList == P.toList) = true := by simp
  clear hP hT hsc
  go_enter Tryd.func18, Tryd.ntmps18
  go_wp2_with (go_at_call 15; refine hcall.mono ?_; rintro e w' ⟨rfl, hP', hB'⟩)
  go_ret
  exact ⟨rfl, hP', hB'⟩

set_option maxRecDepth 100000 in
set_option maxHeartbeats 1000000 in
theorem eol_walk {B bp : Nat} {R : List UInt8} {K : Nat} {t : List UInt8} {w : World} (hP : PS w B bp R K t) (b : Bool) (hb : Hid ((K == 1 || K == 0) = b)) :
    Calls Tryd.prog 20 #[.pointer (some ⟨bp, 0, none⟩)] w fun e w' => e = .returned (.bool b) ∧ w' = w := by
  have hc0 := hP.c0
  clear hP
  go_enter Tryd.func20, Tryd.ntmps20
  by_cases h1 : K = 1
  · have h1b : ((K : Int) == 1) = true := by rw [beq_iff_eq]; omega
    have HB : Hid (b = true) := by show _ = _; rw [← hb.out, h1]; rfl
    clear hb
    go_wp2
    go_ret
    exact ⟨retB HB.out.symm, rfl⟩
  · have h1b : ((K : Int) == 1) = false := by rw [beq_eq_false_iff_ne]; omega
    by_cases h0 : K = 0
    · have h0b : ((K : Int) == 0) = true := by rw [beq_iff_eq]; omega
      have HB : Hid (b = true) := by show _ = _; rw [← hb.out, h0]; rfl
      clear hb
      go_wp2
      go_ret
      exact ⟨retB HB.out.symm, rfl⟩
    · have h0b : ((K : Int) == 0) = false := by rw [beq_eq_false_iff_ne]; omega
      have HB : Hid (b = false) := by show _ = _; rw [← hb.out, show (K == 1) = false from beq_eq_false_iff_ne.2 h1, show (K == 0) = false from beq_eq_false_iff_ne.2 h0]; rfl
      clear hb
      go_wp2
      go_ret
      exact ⟨retB HB.out.symm, rfl⟩
end Go.Proofs.Qxb6614551aDoor
