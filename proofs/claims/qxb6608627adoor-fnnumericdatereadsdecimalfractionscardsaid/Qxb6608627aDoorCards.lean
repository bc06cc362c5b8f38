/-
  DERIVED. GIVEN WITH THE SEED: THE CARDS: each row of Qxb6608627aDoorRows.lean that lists a variable, with what it lists TIED to the program's text (the seventh form; the later family's looks); each row that meets fmt, with fmt's text TOLD by the authors' own Lean function (tested against real Go, not proved from fmt's source: count such statements apart). THE CARD IS WHAT COUNTS. Prove the row's statement (the work); the ties are given (Qxb6608627aDoorTie.lean); close each card by the builder's one call (the guide's Derived/Test/ToyasCard.lean, 'card_holds'). Laid BY PROGRAM, IN A SANDBOX (cutbox-door.mjs). By AI agents, Wed Nov 11 2026. No macro, syntax, notation, axiom, sorry.
-/
import Derived.Test.Qxb6608627aDoorRows
import GoSem.ClaimSeven
namespace Go.Proofs.Qxb6608627aDoor
namespace Rows

/-- THE TIED CARD OF 'zzlaws_root_b1.FnNumericDateReadsDecimalFractions'. -/
def fnNumericDateReadsDecimalFractionsCard : Claim7 := { stood := { row := fnNumericDateReadsDecimalFractionsRow, standIns := [], harness := (true, "790e295358d7c760b278df600cc1a79054355f781a30f003762a026718722bd8"), looks := true }, kinds := [], alts := [], laidByText := true, laidKinds := [.data, .data, .widerDeep, .widerDeep, .data, .data, .data, .data, .data, .sentinel, .sentinel, .pinned, .pinned], laidTests := true, laidLooks := .later }
def FnNumericDateReadsDecimalFractionsCardSaid : Prop := Claim7.holds Tryd.pinned (.plain (OpenSpec.ofChange fnNumericDateReadsDecimalFractionsSpec)) fnNumericDateReadsDecimalFractionsCard
end Rows
end Go.Proofs.Qxb6608627aDoor
