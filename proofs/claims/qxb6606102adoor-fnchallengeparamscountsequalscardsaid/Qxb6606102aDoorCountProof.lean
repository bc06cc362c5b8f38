import Derived.Test.Qxb6606102aDoorRows
import Derived.Test.Qxb6606102aDoorTie
import Derived.Test.Qxb6606102aDoorCards
import Derived.Test.Qxb6606102aDoorCountWalk
import Derived.Test.Qxb6606102aDoorTabs
import Derived.ProofKit
import Derived.Lay
import Derived.SevenTiedAt
namespace Go.Proofs.Qxb6606102aDoor
open Go.ChangeShapes Go.WideShapes Go.ChangeAt Go.RowKit Go.Lib
open Go.ChangeMaps (open_string shut_string)

theorem own : ownKnob Tryd.prog.godebug = none := by kernel_rfl

theorem count_all (s : ByteArray) (w : World) (hT : Tabs w) :
    Calls Tryd.prog 3 #[.string s] w fun e w' => e = .returned (.bool true) ∧ Below w.heap.size w w' := by
  by_cases hs : s.size ≤ 1048576
  · refine count_walk s w hs ?_
    intro W hW
    subst hW
    refine (ch8_walk s W (by omega) hT).mono fun e w' ⟨es, he, hrun, hown, hb⟩ => ⟨_, _, _, he, hown, ?_, hb⟩
    have h1 := Pl.Run.count es _ hrun
    have h2 := Pl.size_fillM_le (H := Unit) es (.map []) Maps.tidy_empty
    refine ⟨?_, fun h0 => ?_, fun h0 => ?_⟩
    · have : Maps.size (.map [] : DataW Unit) = 0 := rfl
      omega
    · have : Maps.size (.map [] : DataW Unit) = 0 := rfl
      omega
    · refine Pl.size_fillM_pos es fun e0 => ?_
      have := h1.2 e0
      omega
  · exact count_big s w (by omega)

set_option maxRecDepth 100000 in
theorem count_lifted (os : Os) (started : os.Started) (H : Type) (enc : TypeId × Value → H) :
    ReturnsInHanded {} Tryd.checked os 3 .any (fun w args => (Rows.fnChallengeParamsCountsEqualsSpec.pre enc Tryd.prog Tryd.f3 Rows.fnChallengeParamsCountsEqualsRow.domain false w args ∧ laidMetH Tryd.prog Rows.fnChallengeParamsCountsEqualsRow.laid w) ∧ sizedMet enc Tryd.prog Tryd.f3 (OpenSpec.ofChange Rows.fnChallengeParamsCountsEqualsSpec) false w args)
      (Rows.fnChallengeParamsCountsEqualsSpec.post enc Tryd.prog Tryd.f3 false true false false) := by
  refine returnsInHanded_both (C := Tryd.checked) (X := fun w _ => laidMetH Tryd.prog Rows.fnChallengeParamsCountsEqualsRow.laid w) (fun _ _ _ hh h => h.of_heap hh) own started (by kernel_rfl) Tryd.func3
    (ChangeSpec.witness_shaped (enc := enc) (C := Tryd.checked) (os := os) (X := fun w _ => laidMetH Tryd.prog Rows.fnChallengeParamsCountsEqualsRow.laid w) false (World.laidAll Tryd.prog os Rows.fnChallengeParamsCountsEqualsRow.laid) #[.string ByteArray.empty] 8 (World.laidAll_os _ _ _)
      (World.shaped_of_ZipB (by kernel_rfl) (by kernel_rfl)) (by kernel_rfl) (by kernel_rfl) (by kernel_rfl)
      (by rw [MakeChecks.laidMetH_plain _ _ _ (by kernel_rfl)]; exact laidMet_laidAll _ (by kernel_rfl) (by kernel_rfl))) ?_
  intro W base args ds gs before hval0 hW _ _ hL hsh _
  have hval : ∀ (j : Nat) t v, Tryd.f3.params[j]? = some t → args[j]? = some v → Value.okWide Tryd.prog W .any base t v := hval0
  have hW' := hW
  obtain ⟨p, q, hA0, hV, rfl, _, _⟩ := hW
  have hA : DataW.TrodAll enc Tryd.prog W 0 (fun _ => true) true Tryd.f3.params.toList args.toList ds p := hA0
  rw [Tryd.params3] at hA hval
  obtain ⟨v0, d0, rfl, rfl, h0⟩ := trodAll_one hA
  obtain ⟨rfl, rfl⟩ := trodVars_none hV
  obtain ⟨s, rfl, rfl, rfl, hs⟩ := open_string Tryd.underlying9 (hval 0 9 v0 rfl rfl) h0
  simp only [List.append_nil] at hW'
  rw [MakeChecks.laidMetH_plain _ _ _ (by kernel_rfl)] at hL
  have hT : Tabs W := tabs_of hsh (Lib.laidMet.reads hL (.head _)) (Lib.laidMet.reads hL (.tail _ (.head _))) (Lib.laidMet.reads hL (.tail _ (.tail _ (.head _)))) (Lib.laidMet.reads hL (.tail _ (.tail _ (.tail _ (.head _))))) (Lib.laidMet.reads hL (.tail _ (.tail _ (.tail _ (.tail _ (.head _))))))
  refine (count_all s W hT).mono fun e W' ⟨he, hb⟩ => ?_
  subst he
  exact ⟨_, rfl, _, _, _, [], [], [], hW', trodAll_mk1 (shut_bool Tryd.underlying4 _), trodAll_mk1 (shut_string Tryd.underlying9 hs), rfl, hb.frame _, fun h => by cases h⟩

theorem count_holds : Rows.FnChallengeParamsCountsEqualsSaid :=
  OpenClaim.holds_of_wide 3 Tryd.f3 rfl rfl rfl rfl rfl rfl rfl ⟨rfl, rfl, rfl, rfl, rfl⟩ rfl rfl rfl rfl rfl (by kernel_rfl) Tryd.func3 (by kernel_rfl)
    (of_decide_eq_true (by kernel_rfl)) (by unfold Func.isWrapper; first | (rw [if_pos (by decide +kernel)]; kernel_rfl) | (rw [if_neg (by decide +kernel)]; exact ⟨rfl, rfl⟩))
    (fun os started H enc _ => count_lifted os started H enc)

theorem count_card : Rows.FnChallengeParamsCountsEqualsCardSaid :=
  Claim7.holds_tied_plain_at .later [] [.data, .listed, .data, .pinned, .pinned] true (true, "a87eac17f884437476d1b536760119604679c3127c383275b468b817fd5b0513") false count_holds (fun _ h => by cases h) (by kernel_rfl) (fun _ h => by cases h) fnChallengeParamsCountsEquals_row_tie rfl ⟨rfl, rfl⟩ (by kernel_rfl) rfl
    (fun f fn hf hfn => by
      obtain rfl : f = 3 := Option.some.inj ((show Tryd.prog.funcNamed Rows.fnChallengeParamsCountsEqualsRow.func = some 3 by kernel_rfl).symm.trans hf) |>.symm
      obtain rfl : fn = Tryd.f3 := (Option.some.inj (Tryd.func3.symm.trans hfn)).symm
      exact ⟨by kernel_rfl, fun j t ht => by
        rw [Tryd.params3] at ht
        have hm : t ∈ [9] := by simpa using Array.mem_of_getElem? ht
        have hall : ([9].all fun u => !Tryd.prog.wantsStandIn u) = true := by kernel_rfl
        exact (show Tryd.prog.wantsStandIn t = false by simpa using List.all_eq_true.1 hall t hm)⟩)
    (by kernel_rfl)
end Go.Proofs.Qxb6606102aDoor
