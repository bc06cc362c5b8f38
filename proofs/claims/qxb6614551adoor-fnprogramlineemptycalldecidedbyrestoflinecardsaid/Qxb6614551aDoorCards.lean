/-
  DERIVED. GIVEN WITH THE SEED: THE CARDS: each row of Qxb6614551aDoorRows.lean that lists a variable, with what it lists TIED to the program's text (the seventh form; the later family's looks); each row that meets fmt, with fmt's text TOLD by the authors' own Lean function (tested against real Go, not proved from fmt's source: count such statements apart). THE CARD IS WHAT COUNTS. Prove the row's statement (the work); the ties are given (Qxb6614551aDoorTie.lean); close each card by the builder's one call (the guide's Derived/Test/ToyasCard.lean, 'card_holds'). Laid BY PROGRAM, IN A SANDBOX (cutbox-door.mjs). By AI agents, Wed Nov 11 2026. No macro, syntax, notation, axiom, sorry.
-/
import Derived.Test.Qxb6614551aDoorRows
import GoSem.ClaimSeven
namespace Go.Proofs.Qxb6614551aDoor
namespace Rows

/-- THE TIED CARD OF 'zzlaws_internal_desc_b1.FnProgramLineResultAssignmentIsProgram'. -/
def fnProgramLineResultAssignmentIsProgramCard : Claim7 := { stood := { row := fnProgramLineResultAssignmentIsProgramRow, standIns := [], harness := (true, "faa9c521d205cf01f230cdf2dd730b96ca44ad1a7a889ef10f6b2ffca8399d45"), looks := false }, kinds := [], alts := [], laidByText := true, laidKinds := [.data, .pinned], laidTests := true, laidLooks := .later }
def FnProgramLineResultAssignmentIsProgramCardSaid : Prop := Claim7.holds Tryd.pinned (.plain (OpenSpec.ofChange fnProgramLineResultAssignmentIsProgramSpec)) fnProgramLineResultAssignmentIsProgramCard

/-- THE TIED CARD OF 'zzlaws_internal_desc_b1.FnProgramLineEmptyCallDecidedByRestOfLine'. -/
def fnProgramLineEmptyCallDecidedByRestOfLineCard : Claim7 := { stood := { row := fnProgramLineEmptyCallDecidedByRestOfLineRow, standIns := [], harness := (true, "faa9c521d205cf01f230cdf2dd730b96ca44ad1a7a889ef10f6b2ffca8399d45"), looks := false }, kinds := [], alts := [], laidByText := true, laidKinds := [.data, .pinned], laidTests := true, laidLooks := .later }
def FnProgramLineEmptyCallDecidedByRestOfLineCardSaid : Prop := Claim7.holds Tryd.pinned (.plain (OpenSpec.ofChange fnProgramLineEmptyCallDecidedByRestOfLineSpec)) fnProgramLineEmptyCallDecidedByRestOfLineCard
end Rows
end Go.Proofs.Qxb6614551aDoor
