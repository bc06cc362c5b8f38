import Derived.Test.Qxb6609149aFmtRows
import Derived.Test.Qxb6609149aFmtTie
import Derived.Test.Qxb6609149aFmtCards
import Derived.Test.Qxb6609149aFmtLaw
import Derived.ProofKit
import Derived.Lay
import Derived.LaidLaws
import Derived.SevenTiedAt
import Derived.Stop.JoinedTold
import Derived.Deep.DeepWitnessRef
import Derived.PinnedBridge
namespace Go
variable {H : Type} {enc : TypeId × Value → H}
/-- The told row's wrap, the world's shape handed on. -/
theorem Proofs.Qxb6609149aFmt.returnsInTold_shaped {a : Assume} {C : Checked} {os : Os} {f : FuncId} {fn : Func} {s : OpenSpec} {conds : List PathCond} {apart fresh handsOn again : Bool} {laid : List (String × DataW Unit)}
    (enter : C.prog.mayEnter = true) (own : ownKnob C.prog.godebug = none) (started : os.Started) (noInit : C.prog.inits.idxOf? f = none) (hfn : C.prog.funcs[f]? = some fn)
    (witness : ∀ F : Stop.Interp, ∃ (w : World) (tape : Tape) (i : Input), w.os = os ∧ (w.forCall tape i).Shaped C.prog ∧ i.vars = [] ∧ Input.okWide C.prog (w.forCall tape i) .any w.heap.size f i ∧
      s.preRow enc C.prog fn conds apart laid (w.forCall tape i).memory i.args ∧ a.holds C.prog (lone (Frame.enter C.prog f i.args .normal) [] (w.forCall tape i)) ∧ F.answers tape)
    (contract : ∀ (F : Stop.Interp) (W : World) (base : Nat) (args : Array Value) (ds gs : List (DataW H)) (before : List MemPlace),
      W.ShapedOpen C.prog → F.told.answers W.tape →
      (∀ (j : Nat) t v, fn.params[j]? = some t → args[j]? = some v → Value.okWide C.prog W .any base t v) →
      DataW.Whole enc C.prog fn.params.toList s.vars apart W args.toList ds gs before →
      Calls C.prog f args W fun e W' => ∃ v, e = .returned v ∧ (s.at F.told).post enc C.prog fn apart fresh handsOn again W args v W') :
    ReturnsInTold none a C os f .any Input.okWide (s.preRow enc C.prog fn conds apart laid) (fun F => (s.at F).post enc C.prog fn apart fresh handsOn again) (aloneAtReturn C.prog) nothingAlways := by
  intro F
  show ReturnsInOpen a (some F.told) C os f .any Input.okWide _ _ (aloneAtReturn C.prog) nothingAlways
  refine returnsInOpen_of_calls_wide enter own started noInit (witness F.told) ?_
  intro w tape i hos hsh _ hok hpre hholds hF
  obtain ⟨_, _, _, fn', hfn', _, _, _, _, hval⟩ := hok
  have e : fn' = fn := Option.some.inj (hfn'.symm.trans hfn)
  subst e
  obtain ⟨⟨hp, hl⟩, hz⟩ := hpre
  obtain ⟨ds, gs, before, hw, hc, hk⟩ := OpenSpec.pre_parts hp
  have hw' := DataW.Whole.of_heap (w' := w.forCall tape i) (by rfl) hw
  refine (contract F (w.forCall tape i) w.heap.size i.args ds gs before hsh hF hval hw').mono fun e W' ⟨v, he, hp⟩ => ?_
  subst he
  exact ChangeSpec.post_blind hp

namespace Proofs.Qxb6609149aFmt
open Go.ChangeShapes Go.WideShapes Go.ChangeAt Go.RowKit Go.Lib Go.Extern.Stop Go.Stop Go.Extern
open Go.ChangeMaps (open_string shut_string)

theorem fmt_own : ownKnob Tryf.prog.godebug = none := by kernel_rfl
theorem fmt_laidOut : laidOutB Tryf.pinned.checked.prog = true := by kernel_rfl
theorem fmt_stops : Tryf.pinned.checked.prog.stops = ["fmt.errorf"] := by kernel_rfl
theorem fmt_stopKnobs : Tryf.pinned.checked.prog.stopKnobs = [] := by kernel_rfl
theorem fmt_quiet (os : Os) : Stop.quiet Tryf.pinned.checked.prog os := by
  intro k hk
  rw [fmt_stopKnobs] at hk
  cases hk

theorem wit_row (os : Os) {H : Type} (enc : TypeId × Value → H) :
    (OpenSpec.ofChange Rows.fnParseAttributesJoinAtAnyCutSpec).preRow enc Tryf.prog Tryf.f3 Rows.fnParseAttributesJoinAtAnyCutRow.domain false Rows.fnParseAttributesJoinAtAnyCutRow.laid
      ((World.laidAll Tryf.prog os Rows.fnParseAttributesJoinAtAnyCutRow.laid).forCall (fun _ _ => 0) ⟨#[], #[.string ByteArray.empty, .string ByteArray.empty], []⟩).memory #[.string ByteArray.empty, .string ByteArray.empty] := by
  have hw : (DataW.whole enc Tryf.prog ((World.laidAll Tryf.prog os Rows.fnParseAttributesJoinAtAnyCutRow.laid).forCall (fun _ _ => 0) ⟨#[], #[.string ByteArray.empty, .string ByteArray.empty], []⟩).memory Tryf.f3.params.toList (OpenSpec.ofChange Rows.fnParseAttributesJoinAtAnyCutSpec).vars false #[Value.string ByteArray.empty, Value.string ByteArray.empty].toList 8).map (fun x => (x.1, x.2.1)) =
      some ([.lit (.string []), .lit (.string [])], []) := by kernel_rfl
  obtain ⟨⟨x1, x2, x3⟩, hx, hx1⟩ := Option.map_eq_some_iff.1 hw
  simp only [Prod.mk.injEq] at hx1
  obtain ⟨rfl, rfl⟩ := hx1
  exact OpenSpec.preRow_of_cond 8 hx (by kernel_rfl) (fun k hk => by cases hk) (by kernel_rfl)
    (by rw [MakeChecks.laidMetH_plain _ _ _ (by kernel_rfl)]; exact laidMet_laidAll _ (by kernel_rfl) (by kernel_rfl))

set_option maxRecDepth 100000 in
theorem wit (os : Os) {H : Type} (enc : TypeId × Value → H) (F : Stop.Interp) :
    ∃ (w : World) (tape : Tape) (i : Input), w.os = os ∧ (w.forCall tape i).Shaped Tryf.checked.prog ∧ i.vars = [] ∧ Input.okWide Tryf.checked.prog (w.forCall tape i) .any w.heap.size 3 i ∧
      (OpenSpec.ofChange Rows.fnParseAttributesJoinAtAnyCutSpec).preRow enc Tryf.checked.prog Tryf.f3 Rows.fnParseAttributesJoinAtAnyCutRow.domain false Rows.fnParseAttributesJoinAtAnyCutRow.laid (w.forCall tape i).memory i.args ∧ ({} : Assume).holds Tryf.checked.prog (lone (Frame.enter Tryf.checked.prog 3 i.args .normal) [] (w.forCall tape i)) ∧ F.answers tape :=
  have hok : Input.okWideB Tryf.checked.prog ((World.laidAll Tryf.prog os Rows.fnParseAttributesJoinAtAnyCutRow.laid).forCall (fun _ _ => 0) ⟨#[], #[.string ByteArray.empty, .string ByteArray.empty], []⟩) 3 ⟨#[], #[.string ByteArray.empty, .string ByteArray.empty], []⟩ = true := by kernel_rfl
  ⟨World.laidAll Tryf.prog os Rows.fnParseAttributesJoinAtAnyCutRow.laid, F.over fun _ _ => 0, ⟨#[], #[.string ByteArray.empty, .string ByteArray.empty], []⟩, World.laidAll_os _ _ _, World.shaped_of_ZipB (by kernel_rfl) (by kernel_rfl),
    (Input.okWide_of_okWideB (base := 0) hok).1, (Input.okWide_of_okWideB hok).2, wit_row os enc, by
      simp only [Assume.holds]
      exact ⟨by simp, by simp, fun _ => F.over_modest Modest.zero, by simp, by simp⟩, F.over_answers _⟩

set_option maxRecDepth 100000 in
theorem law_lifted (os : Os) (started : os.Started) (H : Type) (enc : TypeId × Value → H) :
    ReturnsInTold none {} Tryf.checked os 3 .any Input.okWide ((OpenSpec.ofChange Rows.fnParseAttributesJoinAtAnyCutSpec).preRow enc Tryf.prog Tryf.f3 Rows.fnParseAttributesJoinAtAnyCutRow.domain false Rows.fnParseAttributesJoinAtAnyCutRow.laid)
      (fun F => ((OpenSpec.ofChange Rows.fnParseAttributesJoinAtAnyCutSpec).at F).post enc Tryf.prog Tryf.f3 false true false false) (aloneAtReturn Tryf.prog) nothingAlways := by
  refine returnsInTold_shaped (C := Tryf.checked) (s := OpenSpec.ofChange Rows.fnParseAttributesJoinAtAnyCutSpec) (by kernel_rfl) fmt_own started (by kernel_rfl) Tryf.func3 (wit os enc) ?_
  intro F W base args ds gs before hsh hF hval0 hW
  have hval : ∀ (j : Nat) t v, Tryf.f3.params[j]? = some t → args[j]? = some v → Value.okWide Tryf.prog W .any base t v := hval0
  have hW' := hW
  obtain ⟨p, q, hA0, hV, rfl, _, _⟩ := hW
  have hA : DataW.TrodAll enc Tryf.prog W 0 (fun _ => true) true Tryf.f3.params.toList args.toList ds p := hA0
  rw [Tryf.params3] at hA hval
  obtain ⟨v0, v1, d0, d1, p0, p1, rfl, rfl, rfl, h0, h1⟩ := trodAll_two hA
  obtain ⟨rfl, rfl⟩ := trodVars_none hV
  obtain ⟨a, rfl, rfl, rfl, ha⟩ := open_string Tryf.underlying9 (hval 0 9 v0 rfl rfl) h0
  obtain ⟨b, rfl, rfl, rfl, hb⟩ := open_string Tryf.underlying9 (hval 1 9 v1 rfl rfl) h1
  simp only [List.append_nil] at hW'
  refine (law_walk F.told a b W (Tryf.laysM146.s1_3 W hsh) hF ha hb).mono fun e W' ⟨he, hbb⟩ => ?_
  subst he
  exact ⟨_, rfl, _, _, _, [], _, [], hW', trodAll_mk1 (shut_bool Tryf.underlying4 _), trodAll_mk2 (shut_string Tryf.underlying9 ha) (shut_string Tryf.underlying9 hb), rfl, hbb.frame _, fun h => by cases h⟩

theorem law_card : Rows.FnParseAttributesJoinAtAnyCutToldSaid :=
  Claim7.holds_of_told_tied_any_at .later 3 Tryf.f3 "fmt.errorf" [] [] (true, "19c0da6a42fb934716794e31092b5960c361024dec1e1181eb597ecaaf0c2b5c") false false [.data, .pinned] true (by kernel_rfl) rfl rfl rfl fmt_laidOut (by kernel_rfl) rfl ⟨rfl, rfl, rfl, rfl, rfl, rfl, rfl⟩ rfl rfl (by kernel_rfl) (by kernel_rfl) Tryf.func3 (by kernel_rfl)
    (of_decide_eq_true (by kernel_rfl)) (by unfold Func.isWrapper; first | (rw [if_pos (by decide +kernel)]; kernel_rfl) | (rw [if_neg (by decide +kernel)]; exact ⟨rfl, rfl⟩)) fmt_stops.symm rfl fmt_stopKnobs.symm (by kernel_rfl)
    (by kernel_rfl) (by kernel_rfl) (by kernel_rfl) (by kernel_rfl) (by kernel_rfl) (by kernel_rfl) (by kernel_rfl) (by kernel_rfl) (by kernel_rfl) rfl (by kernel_rfl) rfl rfl
    rfl rfl
    rfl (by kernel_rfl) (by kernel_rfl) (by kernel_rfl) (by decide) (by kernel_rfl) fnParseAttributesJoinAtAnyCut_row_tie
    (OpenClaim.moreEntering_of (by kernel_rfl) (by kernel_rfl) (by kernel_rfl) (by kernel_rfl) (by kernel_rfl) (by kernel_rfl) (by kernel_rfl) (by kernel_rfl) (by kernel_rfl) (by kernel_rfl))
    ⟨_, WideRow.started_initial, fmt_quiet _⟩
    (fun os started _ H enc _ => law_lifted os started H enc)
end Proofs.Qxb6609149aFmt
end Go
