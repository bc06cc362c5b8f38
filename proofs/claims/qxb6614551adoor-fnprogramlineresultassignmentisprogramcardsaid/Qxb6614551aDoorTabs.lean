import Derived.Test.Qxb6614551aDoorRows
import Derived.Test.Qxb6614551aDoorLawFour
import Derived.PinnedBridge
import Derived.Lib.LaidU8
import Derived.HandedShaped
import Derived.Handed
namespace Go
variable {H : Type} {enc : TypeId × Value → H}

/-- The plain wrap with a condition X on the world AND the world's shape. -/
theorem Proofs.Qxb6614551aDoor.returnsInHanded_both {a : Assume} {C : Checked} {os : Os} {f : FuncId} {fn : Func} {s : ChangeSpec} {conds : List PathCond} {apart fresh handsOn again : Bool} {X : World → Array Value → Prop}
    (hX : ∀ (w w' : World) (args : Array Value), w.heap = w'.heap → X w args → X w' args)
    (own : ownKnob C.prog.godebug = none) (started : os.Started) (noInit : C.prog.inits.idxOf? f = none) (hfn : C.prog.funcs[f]? = some fn)
    (witness : ∃ (w : World) (tape : Tape) (i : Input), w.os = os ∧ (w.forCall tape i).Shaped C.prog ∧ i.vars = [] ∧ Input.okWide C.prog (w.forCall tape i) .any w.heap.size f i ∧
      ((s.pre enc C.prog fn conds apart (w.forCall tape i).memory i.args ∧ X (w.forCall tape i).memory i.args) ∧ sizedMet enc C.prog fn (OpenSpec.ofChange s) apart (w.forCall tape i).memory i.args) ∧ a.holds C.prog (lone (Frame.enter C.prog f i.args .normal) [] (w.forCall tape i)))
    (contract : ∀ (W : World) (base : Nat) (args : Array Value) (ds gs : List (DataW H)) (before : List MemPlace),
      (∀ (j : Nat) t v, fn.params[j]? = some t → args[j]? = some v → Value.okWide C.prog W .any base t v) →
      DataW.Whole enc C.prog fn.params.toList s.vars apart W args.toList ds gs before →
      conds.all (PathCond.test C.prog ⟨fn.params.toList, ds, s.plain.varTypes C.prog, gs⟩) = true →
      (DataW.weightsEach C.prog (fn.params.toList ++ s.plain.varTypes C.prog) (ds ++ gs)).all (· ≤ reachBytes) = true → X W args →
      W.ShapedOpen C.prog →
      a.holds C.prog (lone (Frame.enter C.prog f args .normal) [] W) →
      Calls C.prog f args W fun e W' => ∃ v, e = .returned v ∧ s.post enc C.prog fn apart fresh handsOn again W args v W') :
    ReturnsInHanded a C os f .any (fun w args => (s.pre enc C.prog fn conds apart w args ∧ X w args) ∧ sizedMet enc C.prog fn (OpenSpec.ofChange s) apart w args) (s.post enc C.prog fn apart fresh handsOn again) := by
  refine returnsInHanded_of_calls own started noInit witness ?_
  intro w tape i _ hsh _ hok hpre hholds
  obtain ⟨_, _, _, fn', hfn', _, _, _, _, hval⟩ := hok
  have e : fn' = fn := Option.some.inj (hfn'.symm.trans hfn)
  subst e
  obtain ⟨⟨⟨ds, gs, before, hw, hc⟩, hx⟩, hz⟩ := hpre
  have hw' := DataW.Whole.of_heap (w' := w.forCall tape i) (by rfl) hw
  refine (contract (w.forCall tape i) w.heap.size i.args ds gs before hval hw' hc (hz.weights hw) (hX _ _ _ (by rfl) hx) hsh hholds).mono fun e W' ⟨v, he, hp⟩ => ?_
  subst he
  exact ChangeSpec.post_blind hp

namespace Proofs.Qxb6614551aDoor
open Go.Lib Go.Shelf

theorem laid_accept : (Rows.laid_unicode_utf8_acceptRanges : DataW Unit) = Lib.acceptData := by kernel_rfl
theorem tabs_of {W : World} (hL : laidMet Tryd.prog Rows.fnProgramLineEmptyCallDecidedByRestOfLineRow.laid W) :
    Lib.Utf8Tabs (Tryd.lays197_ren.g 3) (Tryd.lays197_ren.g 4) W := by
  have h1 := Lib.laidMet.reads hL (.head _)
  have h5 := Lib.laidMet.reads hL (.tail _ (.head _))
  rw [laid_accept] at h1
  rw [show Rows.laid_unicode_utf8_first = firstData from Pinned.utf8First_eq] at h5
  exact utf8Tabs_of_reads (ρ := Tryd.lays197_ren) { Tryd.lays197 with } ⟨by kernel_rfl, by kernel_rfl, by kernel_rfl, by kernel_rfl, by kernel_rfl, by kernel_rfl, by kernel_rfl⟩ h5 h1
theorem ut_of {W : World} (hL : laidMet Tryd.prog Rows.fnProgramLineEmptyCallDecidedByRestOfLineRow.laid W) : UT W.heap.size W :=
  fun _ hW => Utf8Tabs_below (tabs_of hL) hW
theorem own : ownKnob Tryd.prog.godebug = none := by kernel_rfl
end Proofs.Qxb6614551aDoor
end Go
