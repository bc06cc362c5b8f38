/-
  NARROWER THAN 'FOR EVERY INPUT', by the rows' own cells (each row's printed sentence says how): FnProgramLineResultAssignmentIsProgram: laid · FnProgramLineEmptyCallDecidedByRestOfLine: laid.
  DERIVED. THE GIVEN ROWS OF THIS SEAT. 2 by the template 'for every input the law returns true; each argument reads behind the call as it read before'; 0 by the template 'total and deterministic' (their statements: Qxb6614551aDoorTotals.lean).
  GIVEN WITH THE SEED: the statements are not yours to turn. If you find one false, say at which input.
  Laid BY PROGRAM, IN A SANDBOX (cutbox-rows.mjs): the forced cells as the released guide's own fill.sh prints them over the translation 439819f345059e86… (all of the seat's roots in one cut). By AI agents, Wed Nov 11 2026. No macro, syntax, notation, axiom, sorry.
-/
import Derived.Test.Qxb6614551aDoorChecked
import GoSem.PinnedTables
import GoSem.Claim
import GoSem.ClaimJoined
import GoSem.ClaimMapViews
import Derived.JoinedTies
import Derived.KernelRfl
namespace Go.Proofs.Qxb6614551aDoor
/- THE CELL 'sum', in the pinned program and in every row, IS THE sha256 OF THE DUMP (.gsa) THAT Qxb6614551aDoorProg.lean LOADS. Nothing in Lean hashes anything: it is a label: what it is worth is what the hold of that sum in a sandbox is worth. -/
noncomputable def Tryd.pinned : Pinned := { name := "qxb6614551adoor", sum := "439819f345059e86af8e923afbf95cce0a4c55e25f5f0232a1660a3dcbe564cc", checked := Tryd.checked }
namespace Rows
def none {H : Type} : Left H := { results := [], args := [] }

/- WHAT THE LISTED PACKAGE-LEVEL VARIABLES READ AS WHEN THE CALL BEGINS. Each datum BY PROGRAM (the guide's laid-datum.mjs) off the statement by which the dump's own 'gosem.cut.vars' lays the variable. In a bare row this is a premise. The card (Qxb6614551aDoorCards.lean) ties it to the program's text. -/
def laid_unicode_utf8_acceptRanges {H : Type} : DataW H := .agg [.agg [.lit (.int .u8 128), .lit (.int .u8 191)], .agg [.lit (.int .u8 160), .lit (.int .u8 191)], .agg [.lit (.int .u8 128), .lit (.int .u8 159)], .agg [.lit (.int .u8 144), .lit (.int .u8 191)], .agg [.lit (.int .u8 128), .lit (.int .u8 143)], .agg [.lit (.int .u8 0), .lit (.int .u8 0)], .agg [.lit (.int .u8 0), .lit (.int .u8 0)], .agg [.lit (.int .u8 0), .lit (.int .u8 0)], .agg [.lit (.int .u8 0), .lit (.int .u8 0)], .agg [.lit (.int .u8 0), .lit (.int .u8 0)], .agg [.lit (.int .u8 0), .lit (.int .u8 0)], .agg [.lit (.int .u8 0), .lit (.int .u8 0)], .agg [.lit (.int .u8 0), .lit (.int .u8 0)], .agg [.lit (.int .u8 0), .lit (.int .u8 0)], .agg [.lit (.int .u8 0), .lit (.int .u8 0)], .agg [.lit (.int .u8 0), .lit (.int .u8 0)]]
/-- One of Go's own tables, pinned by name: the form's constant. -/
def laid_unicode_utf8_first : DataW Unit := Go.Pinned.utf8First

/-- 'zzlaws_internal_desc_b1.FnProgramLineResultAssignmentIsProgram': WHATEVER THE INPUT: true; the input reads as it did. -/
def fnProgramLineResultAssignmentIsProgramSpec : ChangeSpec := { name := "fnProgramLineResultAssignmentIsProgram", fn := fun _ => fun
  | [d1, d2, d3, d4] => { results := [.lit (.bool true)], args := [d1, d2, d3, d4] }
  | _ => none }
def fnProgramLineResultAssignmentIsProgramRow : OpenClaim := { program := "qxb6614551adoor", sum := "439819f345059e86af8e923afbf95cce0a4c55e25f5f0232a1660a3dcbe564cc", func := "example.com/callsmith/callsmith/zzlaws_internal_desc_b1.FnProgramLineResultAssignmentIsProgram", spec := "fnProgramLineResultAssignmentIsProgram", inPlace := ["internal/bytealg.IndexByteString", "internal/bytealg.IndexString"], named := ["unicode/utf8.first", "unicode/utf8.acceptRanges", "internal/bytealg.MaxLen"], apart := false, laid := [("unicode/utf8.acceptRanges", laid_unicode_utf8_acceptRanges), ("unicode/utf8.first", laid_unicode_utf8_first)] }
def FnProgramLineResultAssignmentIsProgramSaid : Prop := fnProgramLineResultAssignmentIsProgramRow.holds Tryd.pinned (OpenSpec.ofChange fnProgramLineResultAssignmentIsProgramSpec)

/-- ITS FALSE NEIGHBOUR: 'it returns false'. Refute it at one input. -/
def fnProgramLineResultAssignmentIsProgramWrong : ChangeSpec := { name := "fnProgramLineResultAssignmentIsProgram", fn := fun _ => fun
  | [d1, d2, d3, d4] => { results := [.lit (.bool false)], args := [d1, d2, d3, d4] }
  | _ => none }
def FnProgramLineResultAssignmentIsProgramWrongFalsely : Prop := fnProgramLineResultAssignmentIsProgramRow.holds Tryd.pinned (OpenSpec.ofChange fnProgramLineResultAssignmentIsProgramWrong)

/-- 'zzlaws_internal_desc_b1.FnProgramLineEmptyCallDecidedByRestOfLine': WHATEVER THE INPUT: true; the input reads as it did. -/
def fnProgramLineEmptyCallDecidedByRestOfLineSpec : ChangeSpec := { name := "fnProgramLineEmptyCallDecidedByRestOfLine", fn := fun _ => fun
  | [d1, d2] => { results := [.lit (.bool true)], args := [d1, d2] }
  | _ => none }
def fnProgramLineEmptyCallDecidedByRestOfLineRow : OpenClaim := { program := "qxb6614551adoor", sum := "439819f345059e86af8e923afbf95cce0a4c55e25f5f0232a1660a3dcbe564cc", func := "example.com/callsmith/callsmith/zzlaws_internal_desc_b1.FnProgramLineEmptyCallDecidedByRestOfLine", spec := "fnProgramLineEmptyCallDecidedByRestOfLine", inPlace := ["internal/bytealg.IndexByteString", "internal/bytealg.IndexString"], named := ["unicode/utf8.first", "unicode/utf8.acceptRanges", "internal/bytealg.MaxLen"], apart := false, laid := [("unicode/utf8.acceptRanges", laid_unicode_utf8_acceptRanges), ("unicode/utf8.first", laid_unicode_utf8_first)] }
def FnProgramLineEmptyCallDecidedByRestOfLineSaid : Prop := fnProgramLineEmptyCallDecidedByRestOfLineRow.holds Tryd.pinned (OpenSpec.ofChange fnProgramLineEmptyCallDecidedByRestOfLineSpec)

/-- ITS FALSE NEIGHBOUR: 'it returns false'. Refute it at one input. -/
def fnProgramLineEmptyCallDecidedByRestOfLineWrong : ChangeSpec := { name := "fnProgramLineEmptyCallDecidedByRestOfLine", fn := fun _ => fun
  | [d1, d2] => { results := [.lit (.bool false)], args := [d1, d2] }
  | _ => none }
def FnProgramLineEmptyCallDecidedByRestOfLineWrongFalsely : Prop := fnProgramLineEmptyCallDecidedByRestOfLineRow.holds Tryd.pinned (OpenSpec.ofChange fnProgramLineEmptyCallDecidedByRestOfLineWrong)

end Rows
end Go.Proofs.Qxb6614551aDoor
