import Derived.Test.Qxb6608627aDoorRows
import Derived.Test.Qxb6608627aDoorTie
import Derived.Test.Qxb6608627aDoorCards
import Derived.Test.Qxb6608627aDoorWrap
import Derived.Test.Qxb6608627aDoorTabs
import Derived.Test.Qxb6608627aDoorLawB
import Derived.ProofKit
import Derived.Lay
import Derived.SevenTiedAt
import Derived.Carry
namespace Go.Proofs.Qxb6608627aDoor
open Go.ChangeShapes Go.WideShapes Go.ChangeAt Go.RowKit Go.Lib

theorem laidOut : laidOutB Tryd.prog = true := by kernel_rfl
theorem cells5 : Tryd.prog.cellsOf 5 = 1 := by kernel_rfl
set_option maxRecDepth 100000 in
/-- an argument: a slice of bytes -/
theorem sl_of {H : Type} {enc : TypeId × Value → H} {W : World} {base : Nat} {v : Value} {d : DataW H} {p : List MemPlace} (hv : Value.okWide Tryd.prog W .any base 22 v) (h : DataW.Trod enc Tryd.prog W 0 (fun _ => true) true 22 v d p) :
    ∃ (A : Option Addr) (l : List UInt8) (cap : Nat), v = .slice A l.length cap ∧ Sl W A (l.map fun c => c.toNat) := by
  obtain ⟨a0, len, cap, rfl⟩ := okWide_slice Tryd.underlying22 hv
  obtain ⟨fuel, hf⟩ := h
  rcases open_ints Tryd.underlying22 Tryd.underlying5 cells5 hf with ⟨hcs, _⟩ | ⟨a, len', cap', zs, hcs, _, hl, _, hz, _, hcell, hwz⟩
  · simp [Value.cells] at hcs
    obtain ⟨rfl, rfl, rfl⟩ := hcs
    exact ⟨none, [], 0, rfl, Or.inl rfl, by simp⟩
  · simp [Value.cells] at hcs
    obtain ⟨rfl, rfl, rfl⟩ := hcs
    simp only [if_true] at hz
    refine ⟨some a, (zs.take len).map fun n => UInt8.ofNat n.toNat, cap, by rw [List.length_map, List.length_take, Nat.min_eq_left (by omega)], ?_, ?_⟩
    · by_cases h0 : len = 0
      · left; simp [h0]
      · right
        have e0 := hcell 0 (by omega)
        have e4 : a = ⟨a.block, a.off, none⟩ := add_none e0
        refine ⟨a.block, a.off, by rw [← e4], fun i x hx => ?_⟩
        simp only [List.getElem?_map, Option.map_eq_some_iff] at hx
        obtain ⟨c, ⟨n, hn, rfl⟩, rfl⟩ := hx
        obtain ⟨hi1, hi2⟩ := List.getElem?_eq_some_iff.1 hn
        rw [List.length_take] at hi1
        have hi : i < zs.length := by omega
        have hg := hcell i hi
        rw [e4, Addr.add_lit] at hg
        rw [hg]
        rw [List.getElem_take] at hi2
        have e5 : zs.getD i 0 = n := by rw [List.getD_eq_getElem?_getD, List.getElem?_eq_getElem hi, hi2]; rfl
        rw [e5]
        have hw := hwz n (by rw [← hi2]; exact List.getElem_mem _)
        have hb : 0 ≤ n ∧ n ≤ 255 := by
          have hw' : (decide ((0 : Int) ≤ n) && decide (n ≤ 255)) = true := hw
          simpa using hw'
        have e6 : ((UInt8.ofNat n.toNat).toNat : Int) = n := by
          rw [UInt8.toNat_ofNat']
          omega
        rw [e6]
    · intro x hx
      obtain ⟨c, _, rfl⟩ := List.mem_map.1 hx
      exact c.toNat_lt
theorem tb_of {W : World} (hL : laidMet Tryd.prog Rows.fnNumericDateReadsDecimalFractionsRow.laid W) : (∃ pb pbo lb lbo fb fbo, Tb W.heap.size pb pbo lb lbo fb fbo f10 hiT loT W) ∧ ∃ te pe, W.cell? ⟨1, 0, none⟩ = some (.iface te pe) := by
  have r1 := Lib.laidMet.reads hL (.tail _ (.head _))
  have r3 := Lib.laidMet.reads hL (.tail _ (.tail _ (.tail _ (.head _))))
  have r4 := Lib.laidMet.reads hL (.tail _ (.tail _ (.tail _ (.tail _ (.head _)))))
  have r5 := Lib.laidMet.reads hL (.tail _ (.tail _ (.tail _ (.tail _ (.tail _ (.head _))))))
  have r6 := Lib.laidMet.reads hL (.tail _ (.tail _ (.tail _ (.tail _ (.tail _ (.tail _ (.head _)))))))
  have r9 := Lib.laidMet.reads hL (.tail _ (.tail _ (.tail _ (.tail _ (.tail _ (.tail _ (.tail _ (.tail _ (.tail _ (.head _))))))))))
  have r11 := Lib.laidMet.reads hL (.tail _ (.tail _ (.tail _ (.tail _ (.tail _ (.tail _ (.tail _ (.tail _ (.tail _ (.tail _ (.tail _ (.head _))))))))))))
  have r12 := Lib.laidMet.reads hL (.tail _ (.tail _ (.tail _ (.tail _ (.tail _ (.tail _ (.tail _ (.tail _ (.tail _ (.tail _ (.tail _ (.tail _ (.head _)))))))))))))
  have h12 := big_of (by kernel_rfl) r1
  obtain ⟨i0, i1, i2⟩ := info_of (by kernel_rfl) r3
  obtain ⟨pb, pbo, p0, p1⟩ := pw_of (by kernel_rfl) r5
  obtain ⟨fb, fbo, q0, q1⟩ := fp_of (by kernel_rfl) r6
  obtain ⟨lb, lbo, l0, l1, l2⟩ := lc_of (by kernel_rfl) r11
  have t10 := p10_of (by kernel_rfl) r12
  exact ⟨⟨pb, pbo, lb, lbo, fb, fbo, opt_of (by kernel_rfl) r4, i0, i1, i2, p0, p1, l0, l1, l2, q0, q1, fun i hi => (t10 i hi).1, fun i hi => (t10 i hi).2, Lib.lt_of_cell (p1 0 (by decide)), Lib.lt_of_cell (l1 0 (by decide)), Lib.lt_of_cell (q1 0 (by decide)), h12⟩, err_of (by kernel_rfl) r9⟩

set_option maxRecDepth 100000 in
set_option maxHeartbeats 2000000 in
theorem nd_lifted (os : Os) (started : os.Started) (H : Type) (enc : TypeId × Value → H) :
    ReturnsInHanded {} Tryd.checked os 3 .any (fun w args => (Rows.fnNumericDateReadsDecimalFractionsSpec.pre enc Tryd.prog Tryd.f3 Rows.fnNumericDateReadsDecimalFractionsRow.domain false w args ∧ laidMetH Tryd.prog Rows.fnNumericDateReadsDecimalFractionsRow.laid w) ∧ sizedMet enc Tryd.prog Tryd.f3 (OpenSpec.ofChange Rows.fnNumericDateReadsDecimalFractionsSpec) false w args)
      (Rows.fnNumericDateReadsDecimalFractionsSpec.post enc Tryd.prog Tryd.f3 false true false false) := by
  refine returnsInHanded_both (C := Tryd.checked) (X := fun w _ => laidMetH Tryd.prog Rows.fnNumericDateReadsDecimalFractionsRow.laid w) (fun _ _ _ hh h => h.of_heap hh) own started (by kernel_rfl) Tryd.func3
    (ChangeSpec.witness_shaped (enc := enc) (C := Tryd.checked) (os := os) (X := fun w _ => laidMetH Tryd.prog Rows.fnNumericDateReadsDecimalFractionsRow.laid w) false (World.laidAll Tryd.prog os Rows.fnNumericDateReadsDecimalFractionsRow.laid) #[.slice none 0 0, .slice none 0 0] 8 (World.laidAll_os _ _ _)
      (World.shaped_of_ZipB (by kernel_rfl) (by kernel_rfl)) (by kernel_rfl) (by kernel_rfl) (by kernel_rfl)
      (by rw [MakeChecks.laidMetH_plain _ _ _ (by kernel_rfl)]; exact laidMet_laidAll _ (by kernel_rfl) (by kernel_rfl))) ?_
  intro W base args ds gs before hval0 hW _ _ hL _ _
  have hval : ∀ (j : Nat) t v, Tryd.f3.params[j]? = some t → args[j]? = some v → Value.okWide Tryd.prog W .any base t v := hval0
  have hW' := hW
  obtain ⟨p, q, hA0, hV, rfl, _, _⟩ := hW
  have hA : DataW.TrodAll enc Tryd.prog W 0 (fun _ => true) true Tryd.f3.params.toList args.toList ds p := hA0
  rw [Tryd.params3] at hA hval
  obtain ⟨v0, v1, d0, d1, p0, p1, rfl, rfl, rfl, h0, h1⟩ := trodAll_two hA
  obtain ⟨rfl, rfl⟩ := trodVars_none hV
  obtain ⟨A1, a, c1, rfl, s1⟩ := sl_of (hval 0 22 v0 rfl rfl) h0
  obtain ⟨A2, b, c2, rfl, s2⟩ := sl_of (hval 1 22 v1 rfl rfl) h1
  simp only [List.append_nil] at hW'
  rw [MakeChecks.laidMetH_plain _ _ _ (by kernel_rfl)] at hL
  obtain ⟨⟨pb, pbo, lb, lbo, fb, fbo, t⟩, hE⟩ := tb_of hL
  refine (law_all hiT loT f10 hiT_lt loT_lt (fun _ _ => rfl) a b A1 A2 c1 c2 W.heap.size pb pbo lb lbo fb fbo W t (Nat.le_refl _) hE s1 s2).mono fun e W' ⟨he, hB⟩ => ?_
  subst he
  have hlt : ∀ x ∈ p0 ++ p1, x.block < W.heap.size := fun x hx => by simpa using hW'.lt x hx
  exact ⟨_, rfl, _, _, _, [], _, [], hW', trodAll_mk1 (shut_bool Tryd.underlying4 _), trodAll_mk2 (Below.trod laidOut (by kernel_rfl) (of_decide_eq_true (by kernel_rfl)) h0 hB (fun x hx => hlt x (by simp [hx]))) (Below.trod laidOut (by kernel_rfl) (of_decide_eq_true (by kernel_rfl)) h1 hB (fun x hx => hlt x (by simp [hx]))), rfl, hB.frame _, fun h => by cases h⟩

theorem nd_holds : Rows.FnNumericDateReadsDecimalFractionsSaid :=
  OpenClaim.holds_of_wide 3 Tryd.f3 rfl rfl rfl rfl rfl rfl rfl ⟨rfl, rfl, rfl, rfl, rfl⟩ rfl rfl rfl rfl rfl (by kernel_rfl) Tryd.func3 (by kernel_rfl)
    (of_decide_eq_true (by kernel_rfl)) (by unfold Func.isWrapper; first | (rw [if_pos (by decide +kernel)]; kernel_rfl) | (rw [if_neg (by decide +kernel)]; exact ⟨rfl, rfl⟩))
    (fun os started H enc _ => nd_lifted os started H enc)

theorem nd_card : Rows.FnNumericDateReadsDecimalFractionsCardSaid :=
  Claim7.holds_tied_plain_at .later [] [.data, .data, .widerDeep, .widerDeep, .data, .data, .data, .data, .data, .sentinel, .sentinel, .pinned, .pinned] true (true, "790e295358d7c760b278df600cc1a79054355f781a30f003762a026718722bd8") true nd_holds (fun _ h => by cases h) (by kernel_rfl) (fun _ h => by cases h) fnNumericDateReadsDecimalFractions_row_tie rfl ⟨rfl, rfl⟩ (by kernel_rfl) rfl
    (fun f fn hf hfn => by
      obtain rfl : f = 3 := Option.some.inj ((show Tryd.prog.funcNamed Rows.fnNumericDateReadsDecimalFractionsRow.func = some 3 by kernel_rfl).symm.trans hf) |>.symm
      obtain rfl : fn = Tryd.f3 := (Option.some.inj (Tryd.func3.symm.trans hfn)).symm
      exact ⟨by kernel_rfl, fun j t ht => by
        rw [Tryd.params3] at ht
        have hm : t ∈ [22, 22] := by simpa using Array.mem_of_getElem? ht
        have hall : ([22, 22].all fun u => !Tryd.prog.wantsStandIn u) = true := by kernel_rfl
        exact (show Tryd.prog.wantsStandIn t = false by simpa using List.all_eq_true.1 hall t hm)⟩)
    (by kernel_rfl)
end Go.Proofs.Qxb6608627aDoor
