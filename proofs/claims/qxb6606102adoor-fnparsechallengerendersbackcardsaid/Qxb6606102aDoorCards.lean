/-
  DERIVED. GIVEN WITH THE SEED: THE CARDS: each row of Qxb6606102aDoorRows.lean that lists a variable, with what it lists TIED to the program's text (the seventh form; the later family's looks); each row that meets fmt, with fmt's text TOLD by the authors' own Lean function (tested against real Go, not proved from fmt's source: count such statements apart). THE CARD IS WHAT COUNTS. Prove the row's statement (the work); the ties are given (Qxb6606102aDoorTie.lean); close each card by the builder's one call (the guide's Derived/Test/ToyasCard.lean, 'card_holds'). Laid BY PROGRAM, IN A SANDBOX (cutbox-door.mjs). By AI agents, Wed Nov 11 2026. No macro, syntax, notation, axiom, sorry.
-/
import Derived.Test.Qxb6606102aDoorRows
import GoSem.ClaimSeven
namespace Go.Proofs.Qxb6606102aDoor
namespace Rows

/-- THE TIED CARD OF 'zzlaws_internal_azurekv_b1.FnChallengeParamsCountsEquals'. -/
def fnChallengeParamsCountsEqualsCard : Claim7 := { stood := { row := fnChallengeParamsCountsEqualsRow, standIns := [], harness := (true, "a87eac17f884437476d1b536760119604679c3127c383275b468b817fd5b0513"), looks := false }, kinds := [], alts := [], laidByText := true, laidKinds := [.data, .listed, .data, .pinned, .pinned], laidTests := true, laidLooks := .later }
def FnChallengeParamsCountsEqualsCardSaid : Prop := Claim7.holds Tryd.pinned (.plain (OpenSpec.ofChange fnChallengeParamsCountsEqualsSpec)) fnChallengeParamsCountsEqualsCard

/-- THE TIED CARD OF 'zzlaws_internal_azurekv_b1.FnParseChallengeResultShape'. -/
def fnParseChallengeResultShapeCard : Claim7 := { stood := { row := fnParseChallengeResultShapeRow, standIns := [], harness := (true, "a87eac17f884437476d1b536760119604679c3127c383275b468b817fd5b0513"), looks := false }, kinds := [], alts := [], laidByText := true, laidKinds := [.data, .listed, .data, .data, .data, .pinned, .pinned], laidTests := true, laidLooks := .later }
def FnParseChallengeResultShapeCardSaid : Prop := Claim7.holds Tryd.pinned (.plain (OpenSpec.ofChange fnParseChallengeResultShapeSpec)) fnParseChallengeResultShapeCard

/-- THE TIED CARD OF 'zzlaws_internal_azurekv_b1.FnParseChallengeRendersBack'. -/
def fnParseChallengeRendersBackCard : Claim7 := { stood := { row := fnParseChallengeRendersBackRow, standIns := [], harness := (true, "a87eac17f884437476d1b536760119604679c3127c383275b468b817fd5b0513"), looks := false }, kinds := [], alts := [], laidByText := true, laidKinds := [.data, .listed, .data, .data, .data, .pinned, .pinned], laidTests := true, laidLooks := .later }
def FnParseChallengeRendersBackCardSaid : Prop := Claim7.holds Tryd.pinned (.plain (OpenSpec.ofChange fnParseChallengeRendersBackSpec)) fnParseChallengeRendersBackCard

/-- THE TIED CARD OF 'zzlaws_internal_azurekv_b1.FnChallengeParamsRoundTrip'. -/
def fnChallengeParamsRoundTripCard : Claim7 := { stood := { row := fnChallengeParamsRoundTripRow, standIns := [], harness := (true, "a87eac17f884437476d1b536760119604679c3127c383275b468b817fd5b0513"), looks := false }, kinds := [], alts := [], laidByText := true, laidKinds := [.data, .listed, .data, .pinned, .pinned], laidTests := true, laidLooks := .later }
def FnChallengeParamsRoundTripCardSaid : Prop := Claim7.holds Tryd.pinned (.plain (OpenSpec.ofChange fnChallengeParamsRoundTripSpec)) fnChallengeParamsRoundTripCard
end Rows
end Go.Proofs.Qxb6606102aDoor
