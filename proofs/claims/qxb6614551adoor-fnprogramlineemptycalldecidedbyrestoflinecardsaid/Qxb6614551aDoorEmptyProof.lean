import Derived.Test.Qxb6614551aDoorRows
import Derived.Test.Qxb6614551aDoorTie
import Derived.Test.Qxb6614551aDoorCards
import Derived.Test.Qxb6614551aDoorTabs
import Derived.Test.Qxb6614551aDoorNextAll
import Derived.ProofKit
import Derived.Lay
import Derived.SevenTiedAt
import Derived.Carry
namespace Go.Proofs.Qxb6614551aDoor
open Go.ChangeShapes Go.WideShapes Go.ChangeAt Go.RowKit Go.Lib
open Go.ChangeMaps (open_string shut_string)

set_option maxRecDepth 100000 in
theorem empty_lifted (os : Os) (started : os.Started) (H : Type) (enc : TypeId × Value → H) :
    ReturnsInHanded {} Tryd.checked os 4 .any (fun w args => (Rows.fnProgramLineEmptyCallDecidedByRestOfLineSpec.pre enc Tryd.prog Tryd.f4 Rows.fnProgramLineEmptyCallDecidedByRestOfLineRow.domain false w args ∧ laidMetH Tryd.prog Rows.fnProgramLineEmptyCallDecidedByRestOfLineRow.laid w) ∧ sizedMet enc Tryd.prog Tryd.f4 (OpenSpec.ofChange Rows.fnProgramLineEmptyCallDecidedByRestOfLineSpec) false w args)
      (Rows.fnProgramLineEmptyCallDecidedByRestOfLineSpec.post enc Tryd.prog Tryd.f4 false true false false) := by
  refine returnsInHanded_both (C := Tryd.checked) (X := fun w _ => laidMetH Tryd.prog Rows.fnProgramLineEmptyCallDecidedByRestOfLineRow.laid w) (fun _ _ _ hh h => h.of_heap hh) own started (by kernel_rfl) Tryd.func4
    (ChangeSpec.witness_shaped (enc := enc) (C := Tryd.checked) (os := os) (X := fun w _ => laidMetH Tryd.prog Rows.fnProgramLineEmptyCallDecidedByRestOfLineRow.laid w) false (World.laidAll Tryd.prog os Rows.fnProgramLineEmptyCallDecidedByRestOfLineRow.laid) #[.string ByteArray.empty, .string ByteArray.empty] 8 (World.laidAll_os _ _ _)
      (World.shaped_of_ZipB (by kernel_rfl) (by kernel_rfl)) (by kernel_rfl) (by kernel_rfl) (by kernel_rfl)
      (by rw [MakeChecks.laidMetH_plain _ _ _ (by kernel_rfl)]; exact laidMet_laidAll _ (by kernel_rfl) (by kernel_rfl))) ?_
  intro W base args ds gs before hval0 hW _ _ hL _ _
  have hval : ∀ (j : Nat) t v, Tryd.f4.params[j]? = some t → args[j]? = some v → Value.okWide Tryd.prog W .any base t v := hval0
  have hW' := hW
  obtain ⟨p, q, hA0, hV, rfl, _, _⟩ := hW
  have hA : DataW.TrodAll enc Tryd.prog W 0 (fun _ => true) true Tryd.f4.params.toList args.toList ds p := hA0
  rw [Tryd.params4] at hA hval
  obtain ⟨v0, v1, d0, d1, p0, p1, rfl, rfl, rfl, h0, h1⟩ := trodAll_two hA
  obtain ⟨rfl, rfl⟩ := trodVars_none hV
  obtain ⟨a, rfl, rfl, rfl, ha⟩ := open_string Tryd.underlying9 (hval 0 9 v0 rfl rfl) h0
  obtain ⟨b, rfl, rfl, rfl, hb⟩ := open_string Tryd.underlying9 (hval 1 9 v1 rfl rfl) h1
  simp only [List.append_nil] at hW'
  rw [MakeChecks.laidMetH_plain _ _ _ (by kernel_rfl)] at hL
  have hU := ut_of hL
  refine (law4 next_walk a b W ha hb hU).mono fun e W' ⟨he, hB⟩ => ?_
  subst he
  exact ⟨_, rfl, _, _, _, [], [], [], hW', trodAll_mk1 (shut_bool Tryd.underlying4 _), trodAll_mk2 (shut_string Tryd.underlying9 ha) (shut_string Tryd.underlying9 hb), rfl, hB.frame _, fun h => by cases h⟩

theorem empty_holds : Rows.FnProgramLineEmptyCallDecidedByRestOfLineSaid :=
  OpenClaim.holds_of_wide 4 Tryd.f4 rfl rfl rfl rfl rfl rfl rfl ⟨rfl, rfl, rfl, rfl, rfl⟩ rfl rfl rfl rfl rfl (by kernel_rfl) Tryd.func4 (by kernel_rfl)
    (of_decide_eq_true (by kernel_rfl)) (by unfold Func.isWrapper; first | (rw [if_pos (by decide +kernel)]; kernel_rfl) | (rw [if_neg (by decide +kernel)]; exact ⟨rfl, rfl⟩))
    (fun os started H enc _ => empty_lifted os started H enc)

theorem empty_card : Rows.FnProgramLineEmptyCallDecidedByRestOfLineCardSaid :=
  Claim7.holds_tied_plain_at .later [] [.data, .pinned] true (true, "faa9c521d205cf01f230cdf2dd730b96ca44ad1a7a889ef10f6b2ffca8399d45") false empty_holds (fun _ h => by cases h) (by kernel_rfl) (fun _ h => by cases h) fnProgramLineEmptyCallDecidedByRestOfLine_row_tie rfl ⟨rfl, rfl⟩ (by kernel_rfl) rfl
    (fun f fn hf hfn => by
      obtain rfl : f = 4 := Option.some.inj ((show Tryd.prog.funcNamed Rows.fnProgramLineEmptyCallDecidedByRestOfLineRow.func = some 4 by kernel_rfl).symm.trans hf) |>.symm
      obtain rfl : fn = Tryd.f4 := (Option.some.inj (Tryd.func4.symm.trans hfn)).symm
      exact ⟨by kernel_rfl, fun j t ht => by
        rw [Tryd.params4] at ht
        have hm : t ∈ [9, 9] := by simpa using Array.mem_of_getElem? ht
        have hall : ([9, 9].all fun u => !Tryd.prog.wantsStandIn u) = true := by kernel_rfl
        exact (show Tryd.prog.wantsStandIn t = false by simpa using List.all_eq_true.1 hall t hm)⟩)
    (by kernel_rfl)
end Go.Proofs.Qxb6614551aDoor
