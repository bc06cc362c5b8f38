import Derived.Test.Qxb6606102aDoorRows
import Derived.Test.Qxb6606102aDoorChWalk
import Derived.PinnedBridge
import Derived.Lib.LaidU8
import Derived.Lib.LaidCase
import Derived.Lib.LaidTab
import Derived.HandedShaped
import Derived.Handed
namespace Go
variable {H : Type} {enc : TypeId × Value → H}

/-- The plain wrap with a condition X on the world AND the world's shape. -/
theorem Proofs.Qxb6606102aDoor.returnsInHanded_both {a : Assume} {C : Checked} {os : Os} {f : FuncId} {fn : Func} {s : ChangeSpec} {conds : List PathCond} {apart fresh handsOn again : Bool} {X : World → Array Value → Prop}
    (hX : ∀ (w w' : World) (args : Array Value), w.heap = w'.heap → X w args → X w' args)
    (own : ownKnob C.prog.godebug = none) (started : os.Started) (noInit : C.prog.inits.idxOf? f = none) (hfn : C.prog.funcs[f]? = some fn)
    (witness : ∃ (w : World) (tape : Tape) (i : Input), w.os = os ∧ (w.forCall tape i).Shaped C.prog ∧ i.vars = [] ∧ Input.okWide C.prog (w.forCall tape i) .any w.heap.size f i ∧
      ((s.pre enc C.prog fn conds apart (w.forCall tape i).memory i.args ∧ X (w.forCall tape i).memory i.args) ∧ sizedMet enc C.prog fn (OpenSpec.ofChange s) apart (w.forCall tape i).memory i.args) ∧ a.holds C.prog (lone (Frame.enter C.prog f i.args .normal) [] (w.forCall tape i)))
    (contract : ∀ (W : World) (base : Nat) (args : Array Value) (ds gs : List (DataW H)) (before : List MemPlace),
      (∀ (j : Nat) t v, fn.params[j]? = some t → args[j]? = some v → Value.okWide C.prog W .any base t v) →
      DataW.Whole enc C.prog fn.params.toList s.vars apart W args.toList ds gs before →
      conds.all (PathCond.test C.prog ⟨fn.params.toList, ds, s.plain.varTypes C.prog, gs⟩) = true →
      (DataW.weightsEach C.prog (fn.params.toList ++ s.plain.varTypes C.prog) (ds ++ gs)).all (· ≤ reachBytes) = true → X W args →
      W.ShapedOpen C.prog →
      a.holds C.prog (lone (Frame.enter C.prog f args .normal) [] W) →
      Calls C.prog f args W fun e W' => ∃ v, e = .returned v ∧ s.post enc C.prog fn apart fresh handsOn again W args v W') :
    ReturnsInHanded a C os f .any (fun w args => (s.pre enc C.prog fn conds apart w args ∧ X w args) ∧ sizedMet enc C.prog fn (OpenSpec.ofChange s) apart w args) (s.post enc C.prog fn apart fresh handsOn again) := by
  refine returnsInHanded_of_calls own started noInit witness ?_
  intro w tape i _ hsh _ hok hpre hholds
  obtain ⟨_, _, _, fn', hfn', _, _, _, _, hval⟩ := hok
  have e : fn' = fn := Option.some.inj (hfn'.symm.trans hfn)
  subst e
  obtain ⟨⟨⟨ds, gs, before, hw, hc⟩, hx⟩, hz⟩ := hpre
  have hw' := DataW.Whole.of_heap (w' := w.forCall tape i) (by rfl) hw
  refine (contract (w.forCall tape i) w.heap.size i.args ds gs before hval hw' hc (hz.weights hw) (hX _ _ _ (by rfl) hx) hsh hholds).mono fun e W' ⟨v, he, hp⟩ => ?_
  subst he
  exact ChangeSpec.post_blind hp

namespace Proofs.Qxb6606102aDoor
open Go.Lib Go.Shelf

theorem laid_space : (Rows.laid_strings_asciiSpace : DataW Unit) = Lib.tabData .u8 Lib.asciiSpaceTab := by kernel_rfl
theorem laid_accept : (Rows.laid_unicode_utf8_acceptRanges : DataW Unit) = Lib.acceptData := by kernel_rfl
theorem laid_white : (Rows.laid_unicode_White_Space : DataW Unit) = Lib.whiteData := by kernel_rfl
theorem g0 : Tryd.prog.globalNamed "strings.asciiSpace" = some 0 := by kernel_rfl
theorem g0type : (Tryd.prog.globals[0]?).map (·.type) = some 68 := by kernel_rfl
theorem cells5 : Tryd.prog.cellsOf 5 = 1 := by kernel_rfl
theorem cells68 : Tryd.prog.cellsOf 68 = 256 := by kernel_rfl

theorem tabIs_of_reads {W : World} (h : VarReads Tryd.prog W "strings.asciiSpace" (Lib.tabData .u8 Lib.asciiSpaceTab)) : Lib.TabIs Tryd.prog W "strings.asciiSpace" .u8 Lib.asciiSpaceTab := by
  obtain ⟨g', t', cs, fuel, p, hg', ht', hvar, hd⟩ := h
  obtain rfl := Option.some.inj (g0.symm.trans hg')
  obtain rfl := Option.some.inj (g0type.symm.trans ht')
  unfold TabIs
  rw [hvar, ← cells_of_tab Tryd.underlying68 Tryd.underlying5 cells5 cells68 hd]

/-- the two names, off the row's own list -/
def nmA : String := (Rows.fnChallengeParamsCountsEqualsRow.laid.map (·.1)).getD 0 ""
def nmF : String := (Rows.fnChallengeParamsCountsEqualsRow.laid.map (·.1)).getD 4 ""
theorem tabs_of {W : World} (hsh : W.ShapedOpen Tryd.prog) (h1 : VarReads Tryd.prog W nmA Rows.laid_unicode_utf8_acceptRanges)
    (h2 : VarReads Tryd.prog W "unicode.White_Space" Rows.laid_unicode_White_Space) (h3 : VarReads Tryd.prog W "strings.asciiSpace" Rows.laid_strings_asciiSpace)
    (h4 : VarReads Tryd.prog W "unicode.CaseRanges" Rows.laid_unicode_CaseRanges) (h5 : VarReads Tryd.prog W nmF Rows.laid_unicode_utf8_first) : Tabs W := by
  rw [laid_accept] at h1
  rw [laid_white] at h2
  rw [laid_space] at h3
  have h4' : VarReads Tryd.prog W "unicode.CaseRanges" caseData := by rw [← Pinned.caseRanges_eq]; exact h4
  have h5' : VarReads Tryd.prog W nmF firstData := by rw [← Pinned.utf8First_eq]; exact h5
  exact {
    space := tabIs_of_reads h3
    u8 := utf8Tabs_of_reads (ρ := Tryd.lays163_ren) { Tryd.lays163 with } ⟨by kernel_rfl, by kernel_rfl, by kernel_rfl, by kernel_rfl, by kernel_rfl, by kernel_rfl, by kernel_rfl⟩ h5' h1
    white := whiteTab_of_reads (ρ := Tryd.lays163_ren) { Tryd.lays163 with } ⟨by kernel_rfl, by kernel_rfl, by kernel_rfl, by kernel_rfl, by kernel_rfl, by kernel_rfl, by kernel_rfl, by kernel_rfl⟩ h2
    cases := caseVar_of_reads (ρ := Tryd.lays159_ren) { Tryd.lays159 with } Tryd.lays159.t206 ⟨by kernel_rfl, by kernel_rfl, by kernel_rfl, by kernel_rfl, by kernel_rfl, by kernel_rfl⟩ h4'
    maxLen := Tryd.laysM145.s1_3 W hsh }
end Proofs.Qxb6606102aDoor
end Go
