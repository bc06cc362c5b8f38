import Derived.Test.Qxb6614551aDoorNextPreB
import Derived.Laws.Runes
namespace Go.Proofs.Qxb6614551aDoor
open Go.RowKit

set_option linter.unusedSimpArgs false in
set_option maxRecDepth 100000 in
set_option maxHeartbeats 40000000 in
theorem next_s39 (bs : Nat) (f S : ByteArray) (o ln ls : Nat) (w : World) (hsc : Sc w bs f S o ln ls) (ho : o ≤ S.size) (hS : S.size ≤ 16777216) (hln : ln ≤ o + 1) (hls : ls ≤ o) (c0 : UInt8) (l0 : List UInt8) (hcl : S.data.toList.drop (o + Pl.skipN false (S.data.toList.drop o)) = c0 :: l0) (h10 : ¬ c0.toNat = 10) (hl : Pl.isLet c0 = false) (hg : Pl.isDig c0 = false) (hq : c0.toNat = 39) :
    Calls Tryd.prog 17 #[.pointer (some ⟨bs, 0, none⟩)] w fun e w' => NextOut bs f S o w e w' := by
  have hlt0 := hsc.lt
  have HQ0 : Hid (c0.toNat = 39) := hq
  clear hq
  go_enter Tryd.func17, Tryd.ntmps17
  go_wp2_with fail
  obtain ⟨w1, hw1⟩ : ∃ w1, w.alloc (.cells #[.int .i64 0, .string ⟨#[]⟩, .string ⟨#[]⟩, .int .i64 0, .int .i64 0] 32) = w1 := ⟨_, rfl⟩
  have hsc1 : Sc w1 bs f S o ln ls := by rw [← hw1]; exact hsc.alloc _
  have hkp1 : Kp bs w w1 := by rw [← hw1]; exact (Kp.refl bs w).alloc _
  have hw1s : w.heap.size < w1.heap.size := by rw [← hw1]; simp
  have hw1b : w1.heap[w.heap.size]? = some (.cells #[.int .i64 0, .string ⟨#[]⟩, .string ⟨#[]⟩, .int .i64 0, .int .i64 0] 32) := by rw [← hw1]; exact alloc_at _ _
  rw [hw1]
  go_loopg [] (2 * S.size + 1) (fun gf wr => ∃ o1 : Nat, o ≤ o1 ∧ o1 ≤ S.size ∧ Sc wr bs f S o1 ln ls ∧ Kp bs w1 wr ∧ S.size < o1 + gf ∧ Hid (o1 + Pl.skipN false (S.data.toList.drop o1) = o + Pl.skipN false (S.data.toList.drop o)))
  case atStart => exact ⟨o, Nat.le_refl _, ho, hsc1, Kp.refl _ _, by omega, rfl⟩
  case round =>
    obtain ⟨o1, ho1, ho2, hscr, hkpr, hgk, HK⟩ := hrel
    generalize gk = G at *
    have hc1 := hscr.c1
    have hc2 := hscr.c2
    have hf2 := hscr.fr 2
    by_cases hlt : o1 < S.size
    · obtain ⟨c, hcd, hix⟩ := index_run S o1 hlt
      have hoz : (o1 : Int) < (S.size : Int) := by omega
      by_cases hb : c.toNat = 32
      · have h32 : ((c.toNat : Int) == 32) = true := beq_of (n := 32) hb
        have HK' : Hid ((o1 + 1) + Pl.skipN false (S.data.toList.drop (o1 + 1)) = o + Pl.skipN false (S.data.toList.drop o)) := by
          have := HK.out
          rw [hcd, skip_blank _ (Or.inl hb)] at this
          show _ = _
          omega
        clear HK hcd
        go_wp2_with fail
        go_quiet (fail)
        go_wp2_with fail
        go_quiet (fail)
        go_wp2
        go_roundg (G - 1)
        case measure => omega
        case rel => exact ⟨o1 + 1, by omega, by omega, (hscr.drewN _).to2 _ _ (by go_num), (hkpr.drewN _).setCell rfl _, by omega, HK'⟩
      have hn32 := hb
      clear hb
      by_cases hb : c.toNat = 9
      · have h9 : ((c.toNat : Int) == 9) = true := beq_of (n := 9) hb
        have h32 : ((c.toNat : Int) == 32) = false := bne_of (n := 32) hn32
        have HK' : Hid ((o1 + 1) + Pl.skipN false (S.data.toList.drop (o1 + 1)) = o + Pl.skipN false (S.data.toList.drop o)) := by
          have := HK.out
          rw [hcd, skip_blank _ (Or.inr (Or.inl hb))] at this
          show _ = _
          omega
        clear HK hcd
        go_wp2_with fail
        go_quiet (fail)
        go_wp2_with fail
        go_quiet (fail)
        go_wp2
        go_roundg (G - 1)
        case measure => omega
        case rel => exact ⟨o1 + 1, by omega, by omega, (hscr.drewN _).to2 _ _ (by go_num), (hkpr.drewN _).setCell rfl _, by omega, HK'⟩
      have hn9 := hb
      clear hb
      by_cases hb : c.toNat = 13
      · have h13 : ((c.toNat : Int) == 13) = true := beq_of (n := 13) hb
        have h32 : ((c.toNat : Int) == 32) = false := bne_of (n := 32) hn32
        have h9 : ((c.toNat : Int) == 9) = false := bne_of (n := 9) hn9
        have HK' : Hid ((o1 + 1) + Pl.skipN false (S.data.toList.drop (o1 + 1)) = o + Pl.skipN false (S.data.toList.drop o)) := by
          have := HK.out
          rw [hcd, skip_blank _ (Or.inr (Or.inr hb))] at this
          show _ = _
          omega
        clear HK hcd
        go_wp2_with fail
        go_quiet (fail)
        go_wp2_with fail
        go_quiet (fail)
        go_wp2
        go_roundg (G - 1)
        case measure => omega
        case rel => exact ⟨o1 + 1, by omega, by omega, (hscr.drewN _).to2 _ _ (by go_num), (hkpr.drewN _).setCell rfl _, by omega, HK'⟩
      have hn13 := hb
      clear hb
      have h32 : ((c.toNat : Int) == 32) = false := bne_of (n := 32) hn32
      have h9 : ((c.toNat : Int) == 9) = false := bne_of (n := 9) hn9
      have h13 : ((c.toNat : Int) == 13) = false := bne_of (n := 13) hn13
      by_cases hb : c.toNat = 35
      · have h35 : ((c.toNat : Int) == 35) = true := beq_of (n := 35) hb
        have HK' : Hid (o1 + Pl.skipN true (S.data.toList.drop o1) = o + Pl.skipN false (S.data.toList.drop o)) := by
          have := HK.out
          rw [hcd, skip_hash _ hb, ← hcd] at this
          exact this
        have HNE : Hid (∃ l, S.data.toList.drop o1 = c :: l) := ⟨_, hcd⟩
        clear HK hcd
        go_wp2_with fail
        go_quiet (fail)
        go_wp2_with fail
        go_quiet (fail)
        go_wp2_with fail
        go_loopg [] (S.size + 1) (fun gf wr => ∃ o2 : Nat, o1 ≤ o2 ∧ o2 ≤ S.size ∧ Sc wr bs f S o2 ln ls ∧ Kp bs w1 wr ∧ S.size < o2 + gf ∧ Hid (o2 + Pl.skipN true (S.data.toList.drop o2) = o + Pl.skipN false (S.data.toList.drop o)) ∧ (o2 = o1 → o1 < S.size ∧ c.toNat = 35))
        case atStart => exact ⟨o1, Nat.le_refl _, ho2, hscr.drewN _, hkpr.drewN _, by omega, HK', fun _ => ⟨hlt, hb⟩⟩
        case round =>
          obtain ⟨o2, hp1, hp2, hscq, hkpq, hgq, HQ, hfirst⟩ := hrel
          clear hc1 hc2 hf2 hscr hkpr
          have hc1 := hscq.c1
          have hc2 := hscq.c2
          have hf2 := hscq.fr 2
          by_cases hltq : o2 < S.size
          · obtain ⟨d, hdd, hixd⟩ := index_run S o2 hltq
            have hoz2 : (o2 : Int) < (S.size : Int) := by omega
            by_cases hd : d.toNat = 10
            · have h10 : ((d.toNat : Int) == 10) = true := beq_of (n := 10) hd
              have hne : o2 ≠ o1 := fun e => by
                obtain ⟨l, hl⟩ := HNE.out
                have hcc := (hfirst e).2
                rw [← e, hdd] at hl
                have : d = c := by injection hl
                rw [this] at hd
                omega
              have HQ' : Hid (o2 + Pl.skipN false (S.data.toList.drop o2) = o + Pl.skipN false (S.data.toList.drop o)) := by
                have := HQ.out
                rw [hdd, skip_nl _ hd] at this ⊢
                exact this
              clear HQ hdd hfirst HK' HNE
              go_wp2_with fail
              go_quiet (fail)
              go_wp2
              go_roundg (G - 1)
              case measure => omega
              case rel => exact ⟨o2, by omega, by omega, hscq.drewN _, hkpq.drewN _, by omega, HQ'⟩
            · have h10 : ((d.toNat : Int) == 10) = false := bne_of (n := 10) hd
              have HQ' : Hid ((o2 + 1) + Pl.skipN true (S.data.toList.drop (o2 + 1)) = o + Pl.skipN false (S.data.toList.drop o)) := by
                have := HQ.out
                rw [hdd, skip_in _ hd] at this
                show _ = _
                omega
              clear HQ hdd hfirst
              go_wp2_with fail
              go_quiet (fail)
              go_wp2
              go_roundg (gk - 1)
              case measure => omega
              case rel => exact ⟨o2 + 1, by omega, by omega, (hscq.drewN _).to2 _ _ (by go_num), (hkpq.drewN _).setCell rfl _, by omega, HQ', fun e => by omega⟩
          · have hoz2 : ¬ (o2 : Int) < (S.size : Int) := by omega
            have hoz2b : decide ((o2 : Int) < (S.size : Int)) = false := decide_eq_false hoz2
            have he : o2 = S.size := by omega
            have hne : o2 ≠ o1 := fun e => by have := (hfirst e).1; omega
            have HQ' : Hid (o2 + Pl.skipN false (S.data.toList.drop o2) = o + Pl.skipN false (S.data.toList.drop o)) := by
              have := HQ.out
              rw [he, drop_end] at this ⊢
              exact this
            clear HQ hfirst HK' HNE
            go_wp2_with fail
            go_quiet (fail)
            go_wp2
            go_roundg (G - 1)
            case measure => omega
            case rel => exact ⟨o2, by omega, by omega, hscq.drewN _, hkpq.drewN _, by omega, HQ'⟩
      · have hn35 := hb
        have h35 : ((c.toNat : Int) == 35) = false := bne_of (n := 35) hb
        have HSC : Hid (Pl.scan (S.data.toList.drop o) = ((Pl.tokN (S.data.toList.drop o1)).1, (S.data.toList.drop o1).take (Pl.tokN (S.data.toList.drop o1)).2, (o1 - o) + (Pl.tokN (S.data.toList.drop o1)).2)) :=
          scan_at S o o1 ho1 HK.out (by rw [hcd]; exact skip_none _ hn32 hn9 hn13 hn35)
        have HCD : Hid (S.data.toList.drop o1 = c :: S.data.toList.drop (o1 + 1)) := hcd
        have hoe : ((o1 : Int) == (S.size : Int)) = false := by rw [beq_eq_false_iff_ne]; omega
        have hrbk := (hkpr.block w.heap.size hw1s (by omega)).trans hw1b
        have ho1e : o1 = o + Pl.skipN false (S.data.toList.drop o) := by
          have h0 : Pl.skipN false (S.data.toList.drop o1) = 0 := by rw [hcd]; exact skip_none _ hn32 hn9 hn13 hn35
          have := HK.out
          omega
        have hcc : c = c0 := by
          rw [← ho1e, hcd] at hcl
          injection hcl
        subst hcc
        clear ho1e hcl
        clear HK hcd hb
        go_wp2_with fail
        go_quiet (fail)
        go_wp2_with fail
        go_quiet (fail)
        go_wp2_with fail
        generalize hND : wr.drewN _ = wD
        have hscD : Sc wD bs f S o1 ln ls := by rw [← hND]; exact hscr
        have hkpD : Kp bs w wD := by rw [← hND]; exact hkp1.trans (hkpr.drewN _)
        have hrbD : wD.heap[w.heap.size]? = some (.cells #[.int .i64 0, .string ⟨#[]⟩, .string ⟨#[]⟩, .int .i64 0, .int .i64 0] 32) := by rw [← hND]; exact hrbk
        clear hND hc1 hc2 hf2 hscr hkpr hrbk
        have hc0 := hscD.c0
        have hc1 := hscD.c1
        have hc2 := hscD.c2
        have hc3 := hscD.c3
        have hc4 := hscD.c4
        have hbl := hscD.lt
        go_region
        generalize hw3 : World.drew (World.alloc wD _) = w3
        have hsc3 : Sc w3 bs f S o1 ln ls := by rw [← hw3]; exact hscD.alloc _
        have hkp3 : Kp bs w w3 := by rw [← hw3]; exact (hkpD.alloc _).drewN 1
        have hrl2 : w.heap.size < wD.heap.size := (Array.getElem?_eq_some_iff.1 hrbD).1
        have hrb3 : w3.heap[w.heap.size]? = some (.cells #[.int .i64 0, .string ⟨#[]⟩, .string ⟨#[]⟩, .int .i64 0, .int .i64 0] 32) := by rw [← hw3]; exact (((Below.refl _ wD).alloc (Nat.le_refl _) _).block _ hrl2).trans hrbD
        have hpos : w3.heap[wD.heap.size]? = some (.cells #[.string f, .int .i64 (ln : Int), .int .i64 ((o1 : Int) - (ls : Int) + 1)] 30) := by rw [← hw3]; exact alloc_at _ _
        have hpl3 : wD.heap.size < w3.heap.size := (Array.getElem?_eq_some_iff.1 hpos).1
        generalize wD.heap.size = pb at *
        clear hw3 hscD hkpD hrbD hc0 hc1 hc2 hc3 hc4 hbl
        have hc1 := hsc3.c1
        have hc2 := hsc3.c2
        go_wp2_with fail
        go_quiet (fail)
        go_wp2_with fail
        go_quiet (fail)
        generalize hNE : w3.drewN _ = w4
        have hsc4 : Sc w4 bs f S o1 ln ls := by rw [← hNE]; exact hsc3
        have hkp4 : Kp bs w w4 := by rw [← hNE]; exact hkp3.drewN _
        have hrb4 : w4.heap[w.heap.size]? = some (.cells #[.int .i64 0, .string ⟨#[]⟩, .string ⟨#[]⟩, .int .i64 0, .int .i64 0] 32) := by rw [← hNE]; exact hrb3
        have hpos4 : w4.heap[pb]? = some (.cells #[.string f, .int .i64 (ln : Int), .int .i64 ((o1 : Int) - (ls : Int) + 1)] 30) := by rw [← hNE]; exact hpos
        clear hNE hsc3 hkp3 hrb3 hpos hpl3 hc1 hc2
        have hn1 : bs ≠ w.heap.size := by omega
        have hn2 : w.heap.size ≠ bs := by omega
        have hn3 : pb ≠ bs := by omega
        have hn4 : bs ≠ pb := by omega
        have hst : St w bs pb f S o1 ln ls ((o1 : Int) - (ls : Int) + 1) w4 := ⟨hsc4, hkp4, hrb4, hpos4, ⟨by omega, by omega⟩⟩
        have h10b : ((c.toNat : Int) == 10) = false := bne_of (n := 10) h10
        clear hsc4 hkp4 hrb4 hpos4 h32 h9 h13 h35 hix hoz hoe
        have hc2 := hst.sc.c2
        have hf2 := hst.sc.fr 2
        go_wp2_with fail
        go_at_call 22
        refine (letter_c c false hl _).mono ?_
        rintro e w' ⟨rfl, hw⟩
        rw [hw]
        clear hw
        go_wp2_with fail
        go_at_call 23
        refine (digit_c c false hg _).mono ?_
        rintro e w' ⟨rfl, hw⟩
        rw [hw]
        clear hw
        have hqq : c.toNat = 39 ∨ c.toNat = 34 := by have := HQ0.out; omega
        have h39b : ((c.toNat : Int) == 39) = true := beq_of (n := 39) HQ0.out
        go_wp2_with fail
        go_loopg [] (S.size + 1) (fun gf wr => ∃ o2 : Nat, o1 + 1 ≤ o2 ∧ o2 ≤ S.size ∧ St w bs pb f S o2 ln ls ((o1 : Int) - (ls : Int) + 1) wr ∧ S.size < o2 + gf ∧ Hid (o2 + Pl.strN c (S.data.toList.drop o2) = o1 + 1 + Pl.strN c (S.data.toList.drop (o1 + 1))))
        case atStart => exact ⟨o1 + 1, Nat.le_refl _, by omega, (hst.drewN _).off _ _ (by go_num), by omega, rfl⟩
        case round =>
          clear hst hc2 hf2
          obtain ⟨o2, hp1, hp2, hstq, hgq, HQ⟩ := hrel
          have hc1 := hstq.sc.c1
          have hc2 := hstq.sc.c2
          have hf2 := hstq.sc.fr 2
          by_cases hltq : o2 < S.size
          · obtain ⟨d, hdd, hixd⟩ := index_run S o2 hltq
            have hoz2 : (o2 : Int) < (S.size : Int) := by omega
            have hwr : IntKind.i64.wrap ((o2 : Int) + 1) = (o2 : Int) + 1 := wrap_small _ (by omega) (by omega)
            by_cases hd10 : d.toNat = 10
            · have hd10b : ((d.toNat : Int) == 10) = true := beq_of (n := 10) hd10
              have HTK : Hid (Pl.tokN (S.data.toList.drop o1) = (6, o2 - o1)) := by
                show _ = _
                rw [tok_str HCD.out h10 hl hg hqq]
                have := HQ.out
                rw [hdd, strN_nl c _ hd10] at this
                congr 1
                omega
              clear hd10
              go_wp2_with fail
              go_quiet (fail)
              go_wp2_with fail
              generalize hNT : World.drewN _ _ = wT
              have hstT : St w bs pb f S o2 ln ls ((o1 : Int) - (ls : Int) + 1) wT := by rw [← hNT]; exact hstq.drewN _
              clear hNT HQ hdd hstq hc1 hc2 hf2
              have hc1 := hstT.sc.c1
              have hc2 := hstT.sc.c2
              have hpos4 := hstT.ps
              have hrb4 := hstT.rb
              have hs1 : (o1 : Int) ≤ (o2 : Int) := by omega
              have hs2 : (o2 : Int) ≤ (S.size : Int) := by omega
              have hp0 : wT.cell? ⟨pb, 0, none⟩ = some (.string f) := blk_cell hpos4 0
              have hp1 : wT.cell? ⟨pb, 1, none⟩ = some (.int .i64 (ln : Int)) := blk_cell hpos4 1
              have hp2 : wT.cell? ⟨pb, 2, none⟩ = some (.int .i64 ((o1 : Int) - (ls : Int) + 1)) := blk_cell hpos4 2
              have hr0 : wT.cell? ⟨w.heap.size, 0, none⟩ = some (.int .i64 0) := blk_cell hrb4 0
              have hr1 : wT.cell? ⟨w.heap.size, 1, none⟩ = some (.string ⟨#[]⟩) := blk_cell hrb4 1
              have hr2 : wT.cell? ⟨w.heap.size, 2, none⟩ = some (.string ⟨#[]⟩) := blk_cell hrb4 2
              have hr3 : wT.cell? ⟨w.heap.size, 3, none⟩ = some (.int .i64 0) := blk_cell hrb4 3
              have hr4 : wT.cell? ⟨w.heap.size, 4, none⟩ = some (.int .i64 0) := blk_cell hrb4 4
              have hz0 := blk_frozen hrb4 0
              have hz1 := blk_frozen hrb4 1
              have hz2 := blk_frozen hrb4 2
              have hz3 := blk_frozen hrb4 3
              have hz4 := blk_frozen hrb4 4
              clear hpos4 hrb4
              go_region
              go_wp2
              refine bodyPost_ret (v := .agg #[.int .i64 6, .string (S.extract o1 o2), .string f, .int .i64 (ln : Int), .int .i64 ((o1 : Int) - (ls : Int) + 1)]) (by simp [results, Tryd.results17, go_sem, hr0, hr1, hr2, hr3, hr4]) rfl ?_
              have hscF := ((((((hstT.sc).other (p := ⟨w.heap.size, 0, none⟩) (by show bs ≠ w.heap.size; omega) (.int .i64 6)).other (p := ⟨w.heap.size, 1, none⟩) (by show bs ≠ w.heap.size; omega) (.string (S.extract o1 o2))).other (p := ⟨w.heap.size, 2, none⟩) (by show bs ≠ w.heap.size; omega) (.string f)).other (p := ⟨w.heap.size, 3, none⟩) (by show bs ≠ w.heap.size; omega) (.int .i64 (ln : Int))).other (p := ⟨w.heap.size, 4, none⟩) (by show bs ≠ w.heap.size; omega) (.int .i64 ((o1 : Int) - (ls : Int) + 1)))
              have hkpF := ((((((hstT.kp).setNew (p := ⟨w.heap.size, 0, none⟩) (Nat.le_refl _) (.int .i64 6)).setNew (p := ⟨w.heap.size, 1, none⟩) (Nat.le_refl _) (.string (S.extract o1 o2))).setNew (p := ⟨w.heap.size, 2, none⟩) (Nat.le_refl _) (.string f)).setNew (p := ⟨w.heap.size, 3, none⟩) (Nat.le_refl _) (.int .i64 (ln : Int))).setNew (p := ⟨w.heap.size, 4, none⟩) (Nat.le_refl _) (.int .i64 ((o1 : Int) - (ls : Int) + 1)))
              exact ⟨6, S.extract o1 o2, o2, ln, ls, f, _, _, rfl, by rw [HSC.out, HTK.out], by rw [HSC.out, HTK.out, text_of], by rw [HSC.out, HTK.out]; show o2 = o + (o1 - o + (o2 - o1)); omega, by omega, by omega, by omega, hscF, hkpF.drewN 1⟩
            have hd10b : ((d.toNat : Int) == 10) = false := bne_of (n := 10) hd10
            by_cases hd92 : d.toNat = 92
            · as_aux_lemma =>
                have hd92b : ((d.toNat : Int) == 92) = true := beq_of (n := 92) hd92
                have hdcb : ((d.toNat : Int) == (c.toNat : Int)) = false := by rw [beq_eq_false_iff_ne]; omega
                by_cases hl2 : o2 + 1 < S.size
                · obtain ⟨e, hee, hixe0⟩ := index_run S (o2 + 1) hl2
                  have hixe : ∀ W, (Instr.index 9 (.string S) (.int .i64 ((o2 : Int) + 1))).run Tryd.prog W = .ok (.int .u8 (e.toNat : Int)) W := fun W => by have := hixe0 W; rwa [show (((o2 + 1 : Nat)) : Int) = (o2 : Int) + 1 by omega] at this
                  have hoz3 : (o2 : Int) + 1 < (S.size : Int) := by omega
                  by_cases he10 : e.toNat = 10
                  · have he10b : ((e.toNat : Int) == 10) = true := beq_of (n := 10) he10
                    have HQ' : Hid ((o2 + 1) + Pl.strN c (S.data.toList.drop (o2 + 1)) = o1 + 1 + Pl.strN c (S.data.toList.drop (o1 + 1))) := by
                      have := HQ.out
                      rw [hdd, hee, strN_escnl c _ hd92 he10 (by omega), ← hee] at this
                      show _ = _
                      omega
                    clear HQ
                    clear hdd hee hixe0 hd92 he10
                    go_wp2_with fail
                    go_quiet (fail)
                    go_wp2_with fail
                    go_quiet (fail)
                    go_wp2_with fail
                    go_quiet (fail)
                    go_wp2
                    go_roundg (gk - 1)
                    case measure => omega
                    case rel => exact ⟨o2 + 1, by omega, by omega, (hstq.drewN _).off _ _ (by go_num), by omega, HQ'⟩
                  · have he10b : ((e.toNat : Int) == 10) = false := bne_of (n := 10) he10
                    have HQ' : Hid ((o2 + 1 + 1) + Pl.strN c (S.data.toList.drop (o2 + 1 + 1)) = o1 + 1 + Pl.strN c (S.data.toList.drop (o1 + 1))) := by
                      have := HQ.out
                      rw [hdd, hee, strN_esc c _ hd92 he10] at this
                      show _ = _
                      omega
                    clear HQ
                    clear hdd hee hixe0 hd92
                    go_wp2_with fail
                    go_quiet (fail)
                    go_wp2_with fail
                    go_quiet (fail)
                    go_wp2
                    go_roundg (gk - 1)
                    case measure => omega
                    case rel => exact ⟨o2 + 1 + 1, by omega, by omega, ((hstq.drewN _).off _ (o2 + 1) (by go_num)).off _ _ (by go_num), by omega, HQ'⟩
                · have hoz3 : ¬ (o2 : Int) + 1 < (S.size : Int) := by omega
                  have hoz3b : decide ((o2 : Int) + 1 < (S.size : Int)) = false := decide_eq_false hoz3
                  have HQ' : Hid ((o2 + 1) + Pl.strN c (S.data.toList.drop (o2 + 1)) = o1 + 1 + Pl.strN c (S.data.toList.drop (o1 + 1))) := by
                    have := HQ.out
                    have hnil := strN_end c hl2
                    have hdn : S.data.toList.drop (o2 + 1) = [] := List.drop_of_length_le (by rw [← Lib.size_eq]; omega)
                    rw [hdd, hdn, strN_last c hd10] at this
                    show _ = _
                    omega
                  clear HQ
                  clear hdd hd92
                  go_wp2_with fail
                  go_quiet (fail)
                  go_wp2_with fail
                  go_quiet (fail)
                  go_wp2_with fail
                  go_quiet (fail)
                  go_wp2
                  go_roundg (gk - 1)
                  case measure => omega
                  case rel => exact ⟨o2 + 1, by omega, by omega, (hstq.drewN _).off _ _ (by go_num), by omega, HQ'⟩
            · have hd92b : ((d.toNat : Int) == 92) = false := bne_of (n := 92) hd92
              by_cases hdq : d.toNat = c.toNat
              · have hdcb : ((d.toNat : Int) == (c.toNat : Int)) = true := by rw [beq_iff_eq]; omega
                have HTK : Hid (Pl.tokN (S.data.toList.drop o1) = (6, (o2 + 1) - o1)) := by
                  show _ = _
                  rw [tok_str HCD.out h10 hl hg hqq]
                  have := HQ.out
                  rw [hdd, strN_q _ hd10 hd92 hdq] at this
                  congr 1
                  omega
                clear HQ hdd hdq
                go_wp2_with fail
                go_quiet (fail)
                go_wp2_with fail
                go_quiet (fail)
                go_wp2_with fail
                go_quiet (fail)
                go_wp2_with fail
                generalize hNT : World.setCell _ _ _ = wT
                obtain ⟨o3, ho3e⟩ : ∃ o3 : Nat, o2 + 1 = o3 := ⟨_, rfl⟩
                have hstT : St w bs pb f S o3 ln ls ((o1 : Int) - (ls : Int) + 1) wT := by rw [← hNT]; exact (hstq.drewN _).off _ _ (by omega)
                rw [ho3e] at HTK
                clear hNT hstq hc1 hc2 hf2
                have hc1 := hstT.sc.c1
                have hc2 := hstT.sc.c2
                have hpos4 := hstT.ps
                have hrb4 := hstT.rb
                have hs1 : (o1 : Int) ≤ (o3 : Int) := by omega
                have hs2 : (o3 : Int) ≤ (S.size : Int) := by omega
                have hp0 : wT.cell? ⟨pb, 0, none⟩ = some (.string f) := blk_cell hpos4 0
                have hp1 : wT.cell? ⟨pb, 1, none⟩ = some (.int .i64 (ln : Int)) := blk_cell hpos4 1
                have hp2 : wT.cell? ⟨pb, 2, none⟩ = some (.int .i64 ((o1 : Int) - (ls : Int) + 1)) := blk_cell hpos4 2
                have hr0 : wT.cell? ⟨w.heap.size, 0, none⟩ = some (.int .i64 0) := blk_cell hrb4 0
                have hr1 : wT.cell? ⟨w.heap.size, 1, none⟩ = some (.string ⟨#[]⟩) := blk_cell hrb4 1
                have hr2 : wT.cell? ⟨w.heap.size, 2, none⟩ = some (.string ⟨#[]⟩) := blk_cell hrb4 2
                have hr3 : wT.cell? ⟨w.heap.size, 3, none⟩ = some (.int .i64 0) := blk_cell hrb4 3
                have hr4 : wT.cell? ⟨w.heap.size, 4, none⟩ = some (.int .i64 0) := blk_cell hrb4 4
                have hz0 := blk_frozen hrb4 0
                have hz1 := blk_frozen hrb4 1
                have hz2 := blk_frozen hrb4 2
                have hz3 := blk_frozen hrb4 3
                have hz4 := blk_frozen hrb4 4
                clear hpos4 hrb4
                go_region
                go_wp2
                refine bodyPost_ret (v := .agg #[.int .i64 6, .string (S.extract o1 o3), .string f, .int .i64 (ln : Int), .int .i64 ((o1 : Int) - (ls : Int) + 1)]) (by simp [results, Tryd.results17, go_sem, hr0, hr1, hr2, hr3, hr4]) rfl ?_
                have hscF := ((((((hstT.sc).other (p := ⟨w.heap.size, 0, none⟩) (by show bs ≠ w.heap.size; omega) (.int .i64 6)).other (p := ⟨w.heap.size, 1, none⟩) (by show bs ≠ w.heap.size; omega) (.string (S.extract o1 o3))).other (p := ⟨w.heap.size, 2, none⟩) (by show bs ≠ w.heap.size; omega) (.string f)).other (p := ⟨w.heap.size, 3, none⟩) (by show bs ≠ w.heap.size; omega) (.int .i64 (ln : Int))).other (p := ⟨w.heap.size, 4, none⟩) (by show bs ≠ w.heap.size; omega) (.int .i64 ((o1 : Int) - (ls : Int) + 1)))
                have hkpF := ((((((hstT.kp).setNew (p := ⟨w.heap.size, 0, none⟩) (Nat.le_refl _) (.int .i64 6)).setNew (p := ⟨w.heap.size, 1, none⟩) (Nat.le_refl _) (.string (S.extract o1 o3))).setNew (p := ⟨w.heap.size, 2, none⟩) (Nat.le_refl _) (.string f)).setNew (p := ⟨w.heap.size, 3, none⟩) (Nat.le_refl _) (.int .i64 (ln : Int))).setNew (p := ⟨w.heap.size, 4, none⟩) (Nat.le_refl _) (.int .i64 ((o1 : Int) - (ls : Int) + 1)))
                exact ⟨6, S.extract o1 o3, o3, ln, ls, f, _, _, rfl, by rw [HSC.out, HTK.out], by rw [HSC.out, HTK.out, text_of], by rw [HSC.out, HTK.out]; show o3 = o + (o1 - o + (o3 - o1)); omega, by omega, by omega, by omega, hscF, hkpF.drewN 1⟩
              · have hdcb : ((d.toNat : Int) == (c.toNat : Int)) = false := by rw [beq_eq_false_iff_ne]; omega
                have HQ' : Hid ((o2 + 1) + Pl.strN c (S.data.toList.drop (o2 + 1)) = o1 + 1 + Pl.strN c (S.data.toList.drop (o1 + 1))) := by
                  have := HQ.out
                  rw [hdd, strN_other _ hd10 hd92 hdq] at this
                  show _ = _
                  omega
                clear HQ
                clear hdd
                go_wp2_with fail
                go_quiet (fail)
                go_wp2_with fail
                go_quiet (fail)
                go_wp2_with fail
                go_quiet (fail)
                go_wp2
                go_roundg (gk - 1)
                case measure => omega
                case rel => exact ⟨o2 + 1, by omega, by omega, (hstq.drewN _).off _ _ (by go_num), by omega, HQ'⟩
          · have hoz2 : ¬ (o2 : Int) < (S.size : Int) := by omega
            have hoz2b : decide ((o2 : Int) < (S.size : Int)) = false := decide_eq_false hoz2
            have HTK : Hid (Pl.tokN (S.data.toList.drop o1) = (6, o2 - o1)) := by
              show _ = _
              rw [tok_str HCD.out h10 hl hg hqq]
              have := HQ.out
              rw [strN_end c hltq] at this
              congr 1
              omega
            go_wp2_with fail
            go_quiet (fail)
            go_wp2_with fail
            generalize hNT : World.drewN _ _ = wT
            have hstT : St w bs pb f S o2 ln ls ((o1 : Int) - (ls : Int) + 1) wT := by rw [← hNT]; exact hstq.drewN _
            clear hNT HQ hstq hc1 hc2 hf2
            have hc1 := hstT.sc.c1
            have hc2 := hstT.sc.c2
            have hpos4 := hstT.ps
            have hrb4 := hstT.rb
            have hs1 : (o1 : Int) ≤ (o2 : Int) := by omega
            have hs2 : (o2 : Int) ≤ (S.size : Int) := by omega
            have hp0 : wT.cell? ⟨pb, 0, none⟩ = some (.string f) := blk_cell hpos4 0
            have hp1 : wT.cell? ⟨pb, 1, none⟩ = some (.int .i64 (ln : Int)) := blk_cell hpos4 1
            have hp2 : wT.cell? ⟨pb, 2, none⟩ = some (.int .i64 ((o1 : Int) - (ls : Int) + 1)) := blk_cell hpos4 2
            have hr0 : wT.cell? ⟨w.heap.size, 0, none⟩ = some (.int .i64 0) := blk_cell hrb4 0
            have hr1 : wT.cell? ⟨w.heap.size, 1, none⟩ = some (.string ⟨#[]⟩) := blk_cell hrb4 1
            have hr2 : wT.cell? ⟨w.heap.size, 2, none⟩ = some (.string ⟨#[]⟩) := blk_cell hrb4 2
            have hr3 : wT.cell? ⟨w.heap.size, 3, none⟩ = some (.int .i64 0) := blk_cell hrb4 3
            have hr4 : wT.cell? ⟨w.heap.size, 4, none⟩ = some (.int .i64 0) := blk_cell hrb4 4
            have hz0 := blk_frozen hrb4 0
            have hz1 := blk_frozen hrb4 1
            have hz2 := blk_frozen hrb4 2
            have hz3 := blk_frozen hrb4 3
            have hz4 := blk_frozen hrb4 4
            clear hpos4 hrb4
            go_region
            go_wp2
            refine bodyPost_ret (v := .agg #[.int .i64 6, .string (S.extract o1 o2), .string f, .int .i64 (ln : Int), .int .i64 ((o1 : Int) - (ls : Int) + 1)]) (by simp [results, Tryd.results17, go_sem, hr0, hr1, hr2, hr3, hr4]) rfl ?_
            have hscF := ((((((hstT.sc).other (p := ⟨w.heap.size, 0, none⟩) (by show bs ≠ w.heap.size; omega) (.int .i64 6)).other (p := ⟨w.heap.size, 1, none⟩) (by show bs ≠ w.heap.size; omega) (.string (S.extract o1 o2))).other (p := ⟨w.heap.size, 2, none⟩) (by show bs ≠ w.heap.size; omega) (.string f)).other (p := ⟨w.heap.size, 3, none⟩) (by show bs ≠ w.heap.size; omega) (.int .i64 (ln : Int))).other (p := ⟨w.heap.size, 4, none⟩) (by show bs ≠ w.heap.size; omega) (.int .i64 ((o1 : Int) - (ls : Int) + 1)))
            have hkpF := ((((((hstT.kp).setNew (p := ⟨w.heap.size, 0, none⟩) (Nat.le_refl _) (.int .i64 6)).setNew (p := ⟨w.heap.size, 1, none⟩) (Nat.le_refl _) (.string (S.extract o1 o2))).setNew (p := ⟨w.heap.size, 2, none⟩) (Nat.le_refl _) (.string f)).setNew (p := ⟨w.heap.size, 3, none⟩) (Nat.le_refl _) (.int .i64 (ln : Int))).setNew (p := ⟨w.heap.size, 4, none⟩) (Nat.le_refl _) (.int .i64 ((o1 : Int) - (ls : Int) + 1)))
            exact ⟨6, S.extract o1 o2, o2, ln, ls, f, _, _, rfl, by rw [HSC.out, HTK.out], by rw [HSC.out, HTK.out, text_of], by rw [HSC.out, HTK.out]; show o2 = o + (o1 - o + (o2 - o1)); omega, by omega, by omega, by omega, hscF, hkpF.drewN 1⟩
    · exfalso
      have he : o1 = S.size := by omega
      have := HK.out
      rw [he, drop_end] at this
      have e2 : o + Pl.skipN false (S.data.toList.drop o) = S.size := by rw [← this]; rfl
      rw [e2, drop_end] at hcl
      cases hcl
end Go.Proofs.Qxb6614551aDoor
