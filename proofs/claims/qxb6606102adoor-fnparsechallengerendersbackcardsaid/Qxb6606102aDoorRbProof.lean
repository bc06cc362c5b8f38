import Derived.Test.Qxb6606102aDoorRows
import Derived.Test.Qxb6606102aDoorTie
import Derived.Test.Qxb6606102aDoorCards
import Derived.Test.Qxb6606102aDoorRbWalkC
import Derived.Test.Qxb6606102aDoorTabs
import Derived.ProofKit
import Derived.Lay
import Derived.SevenTiedAt
import Derived.Carry
namespace Go.Proofs.Qxb6606102aDoor
open Go.ChangeShapes Go.WideShapes Go.ChangeAt Go.RowKit Go.Lib
open Go.ChangeMaps (open_string shut_string)

theorem rb_own : ownKnob Tryd.prog.godebug = none := by kernel_rfl

theorem rb_all (a r s : ByteArray) (u p : Bool) (w : World) (hT : Tabs w) (ha : a.size ≤ maxLen) (hr : r.size ≤ maxLen) (hs : s.size ≤ maxLen) :
    Calls Tryd.prog 5 #[.string a, .string r, .string s, .bool u, .bool p] w fun e w' => e = .returned (.bool true) ∧ Below w.heap.size w w' := by
  cases p <;> cases u
  · exact rb_false_false a r s w hT ha hr hs
  · exact rb_false_true a r s w hT ha hr hs
  · exact rb_true_false a r s w hT ha hr hs
  · exact rb_true_true a r s w hT ha hr hs

set_option maxRecDepth 100000 in
theorem rb_lifted (os : Os) (started : os.Started) (H : Type) (enc : TypeId × Value → H) :
    ReturnsInHanded {} Tryd.checked os 5 .any (fun w args => (Rows.fnParseChallengeRendersBackSpec.pre enc Tryd.prog Tryd.f5 Rows.fnParseChallengeRendersBackRow.domain false w args ∧ laidMetH Tryd.prog Rows.fnParseChallengeRendersBackRow.laid w) ∧ sizedMet enc Tryd.prog Tryd.f5 (OpenSpec.ofChange Rows.fnParseChallengeRendersBackSpec) false w args)
      (Rows.fnParseChallengeRendersBackSpec.post enc Tryd.prog Tryd.f5 false true false false) := by
  refine returnsInHanded_both (C := Tryd.checked) (X := fun w _ => laidMetH Tryd.prog Rows.fnParseChallengeRendersBackRow.laid w) (fun _ _ _ hh h => h.of_heap hh) rb_own started (by kernel_rfl) Tryd.func5
    (ChangeSpec.witness_shaped (enc := enc) (C := Tryd.checked) (os := os) (X := fun w _ => laidMetH Tryd.prog Rows.fnParseChallengeRendersBackRow.laid w) false (World.laidAll Tryd.prog os Rows.fnParseChallengeRendersBackRow.laid) #[.string ByteArray.empty, .string ByteArray.empty, .string ByteArray.empty, .bool false, .bool false] 8 (World.laidAll_os _ _ _)
      (World.shaped_of_ZipB (by kernel_rfl) (by kernel_rfl)) (by kernel_rfl) (by kernel_rfl) (by kernel_rfl)
      (by rw [MakeChecks.laidMetH_plain _ _ _ (by kernel_rfl)]; exact laidMet_laidAll _ (by kernel_rfl) (by kernel_rfl))) ?_
  intro W base args ds gs before hval0 hW _ _ hL hsh _
  have hval : ∀ (j : Nat) t v, Tryd.f5.params[j]? = some t → args[j]? = some v → Value.okWide Tryd.prog W .any base t v := hval0
  have hW' := hW
  obtain ⟨p, q, hA0, hV, rfl, _, _⟩ := hW
  have hA : DataW.TrodAll enc Tryd.prog W 0 (fun _ => true) true Tryd.f5.params.toList args.toList ds p := hA0
  rw [Tryd.params5] at hA hval
  obtain ⟨v0, vs0, d0, ds0, p0, q0, hargs, rfl, rfl, h0, hr0⟩ := trodAll_cons hA
  obtain ⟨v1, v2, v3, v4, d1, d2, d3, d4, p1, p2, p3, p4, hvs, rfl, rfl, h1, h2, h3, h4⟩ := trodAll_four (args := vs0.toArray) (by simpa using hr0)
  obtain rfl : args = #[v0, v1, v2, v3, v4] := by
    apply Array.toList_inj.1
    rw [hargs, show vs0 = [v1, v2, v3, v4] from by simpa using congrArg Array.toList hvs]
  obtain ⟨rfl, rfl⟩ := trodVars_none hV
  obtain ⟨a, rfl, rfl, rfl, ha⟩ := open_string Tryd.underlying9 (hval 0 9 v0 rfl rfl) h0
  obtain ⟨r, rfl, rfl, rfl, hr⟩ := open_string Tryd.underlying9 (hval 1 9 v1 rfl rfl) h1
  obtain ⟨s, rfl, rfl, rfl, hs⟩ := open_string Tryd.underlying9 (hval 2 9 v2 rfl rfl) h2
  obtain ⟨u, rfl, rfl, rfl⟩ := open_bool Tryd.underlying4 (hval 3 4 v3 rfl rfl) h3
  obtain ⟨pp, rfl, rfl, rfl⟩ := open_bool Tryd.underlying4 (hval 4 4 v4 rfl rfl) h4
  simp only [List.append_nil] at hW'
  rw [MakeChecks.laidMetH_plain _ _ _ (by kernel_rfl)] at hL
  have hT : Tabs W := tabs_of hsh (Lib.laidMet.reads hL (.head _)) (Lib.laidMet.reads hL (.tail _ (.head _))) (Lib.laidMet.reads hL (.tail _ (.tail _ (.tail _ (.tail _ (.head _))))))
    (Lib.laidMet.reads hL (.tail _ (.tail _ (.tail _ (.tail _ (.tail _ (.head _))))))) (Lib.laidMet.reads hL (.tail _ (.tail _ (.tail _ (.tail _ (.tail _ (.tail _ (.head _))))))))
  refine (rb_all a r s u pp W hT ha hr hs).mono fun e W' ⟨he, hb⟩ => ?_
  subst he
  exact ⟨_, rfl, _, _, _, [], _, [], hW', trodAll_mk1 (shut_bool Tryd.underlying4 _), ⟨[], [], shut_string Tryd.underlying9 ha, trodAll_mk4 (shut_string Tryd.underlying9 hr) (shut_string Tryd.underlying9 hs) (shut_bool Tryd.underlying4 _) (shut_bool Tryd.underlying4 _), rfl⟩, rfl, hb.frame _, fun h => by cases h⟩

theorem rb_holds : Rows.FnParseChallengeRendersBackSaid :=
  OpenClaim.holds_of_wide 5 Tryd.f5 rfl rfl rfl rfl rfl rfl rfl ⟨rfl, rfl, rfl, rfl, rfl⟩ rfl rfl rfl rfl rfl (by kernel_rfl) Tryd.func5 (by kernel_rfl)
    (of_decide_eq_true (by kernel_rfl)) (by unfold Func.isWrapper; first | (rw [if_pos (by decide +kernel)]; kernel_rfl) | (rw [if_neg (by decide +kernel)]; exact ⟨rfl, rfl⟩))
    (fun os started H enc _ => rb_lifted os started H enc)

theorem rb_card : Rows.FnParseChallengeRendersBackCardSaid :=
  Claim7.holds_tied_plain_at .later [] [.data, .listed, .data, .data, .data, .pinned, .pinned] true (true, "a87eac17f884437476d1b536760119604679c3127c383275b468b817fd5b0513") false rb_holds (fun _ h => by cases h) (by kernel_rfl) (fun _ h => by cases h) fnParseChallengeRendersBack_row_tie rfl ⟨rfl, rfl⟩ (by kernel_rfl) rfl
    (fun f fn hf hfn => by
      obtain rfl : f = 5 := Option.some.inj ((show Tryd.prog.funcNamed Rows.fnParseChallengeRendersBackRow.func = some 5 by kernel_rfl).symm.trans hf) |>.symm
      obtain rfl : fn = Tryd.f5 := (Option.some.inj (Tryd.func5.symm.trans hfn)).symm
      exact ⟨by kernel_rfl, fun j t ht => by
        rw [Tryd.params5] at ht
        have hm : t ∈ [9, 9, 9, 4, 4] := by simpa using Array.mem_of_getElem? ht
        have hall : ([9, 9, 9, 4, 4].all fun u => !Tryd.prog.wantsStandIn u) = true := by kernel_rfl
        exact (show Tryd.prog.wantsStandIn t = false by simpa using List.all_eq_true.1 hall t hm)⟩)
    (by kernel_rfl)
end Go.Proofs.Qxb6606102aDoor
