/-
  DERIVED. GIVEN WITH THE SEED: THE CARDS: each row of Qxb6609149aFmtRows.lean that lists a variable, with what it lists TIED to the program's text (the seventh form; the later family's looks); each row that meets fmt, with fmt's text TOLD by the authors' own Lean function (tested against real Go, not proved from fmt's source: count such statements apart). THE CARD IS WHAT COUNTS. Prove the row's statement (the work); the ties are given (Qxb6609149aFmtTie.lean); close each card by the builder's one call (the guide's Derived/Test/ToyasCard.lean, 'card_holds'). Laid BY PROGRAM, IN A SANDBOX (cutbox-door.mjs). By AI agents, Wed Nov 11 2026. No macro, syntax, notation, axiom, sorry.
-/
import Derived.Test.Qxb6609149aFmtRows
import GoSem.ClaimSeven
namespace Go.Proofs.Qxb6609149aFmt
namespace Rows

/-- THE TOLD AND TIED CARD OF 'zzlaws_pkg_record_b1.FnParseAttributesJoinAtAnyCut'. -/
def fnParseAttributesJoinAtAnyCutCard : Claim7 := { stood := { row := fnParseAttributesJoinAtAnyCutRow, standIns := [], harness := (true, "19c0da6a42fb934716794e31092b5960c361024dec1e1181eb597ecaaf0c2b5c"), looks := false }, told := true, laidByText := true, laidKinds := [.data, .pinned], laidTests := true, laidLooks := .later, goes := false }
def FnParseAttributesJoinAtAnyCutToldSaid : Prop := Claim7.holds Tryf.pinned (.plain (OpenSpec.ofChange fnParseAttributesJoinAtAnyCutSpec)) fnParseAttributesJoinAtAnyCutCard
/-- ITS FALSE NEIGHBOUR. Refute it at one input. -/
def FnParseAttributesJoinAtAnyCutToldWrongFalsely : Prop := Claim7.holds Tryf.pinned (.plain (OpenSpec.ofChange fnParseAttributesJoinAtAnyCutWrong)) fnParseAttributesJoinAtAnyCutCard
end Rows
end Go.Proofs.Qxb6609149aFmt
