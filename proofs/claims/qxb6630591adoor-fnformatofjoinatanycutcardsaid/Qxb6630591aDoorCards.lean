/-
  DERIVED. GIVEN WITH THE SEED: THE CARDS: each row of Qxb6630591aDoorRows.lean that lists a variable, with what it lists TIED to the program's text (the seventh form; the later family's looks); each row that meets fmt, with fmt's text TOLD by the authors' own Lean function (tested against real Go, not proved from fmt's source: count such statements apart). THE CARD IS WHAT COUNTS. Prove the row's statement (the work); the ties are given (Qxb6630591aDoorTie.lean); close each card by the builder's one call (the guide's Derived/Test/ToyasCard.lean, 'card_holds'). Laid BY PROGRAM, IN A SANDBOX (cutbox-door.mjs). By AI agents, Wed Nov 11 2026. No macro, syntax, notation, axiom, sorry.
-/
import Derived.Test.Qxb6630591aDoorRows
import GoSem.ClaimSeven
namespace Go.Proofs.Qxb6630591aDoor
namespace Rows

/-- THE TIED CARD OF 'zzlaws_internal_ranges_b1.FnFormatMatchesRunStartEndModel'. -/
def fnFormatMatchesRunStartEndModelCard : Claim7 := { stood := { row := fnFormatMatchesRunStartEndModelRow, standIns := [], harness := (true, "7b7ebbfaff6bbb78e1a21cddfe0d0ef53ff9ef26b06a3d5cc56a5f8bc5648d94"), looks := false }, kinds := [], alts := [], laidByText := true, laidKinds := [.data, .data, .data], laidTests := true, laidLooks := .later }
def FnFormatMatchesRunStartEndModelCardSaid : Prop := Claim7.holds Tryd.pinned (.plain (OpenSpec.ofChange fnFormatMatchesRunStartEndModelSpec)) fnFormatMatchesRunStartEndModelCard

/-- THE TIED CARD OF 'zzlaws_internal_ranges_b1.FnFormatOfJoinAtAnyCut'. -/
def fnFormatOfJoinAtAnyCutCard : Claim7 := { stood := { row := fnFormatOfJoinAtAnyCutRow, standIns := [], harness := (true, "7b7ebbfaff6bbb78e1a21cddfe0d0ef53ff9ef26b06a3d5cc56a5f8bc5648d94"), looks := false }, kinds := [], alts := [], laidByText := true, laidKinds := [.data, .data, .data], laidTests := true, laidLooks := .later }
def FnFormatOfJoinAtAnyCutCardSaid : Prop := Claim7.holds Tryd.pinned (.plain (OpenSpec.ofChange fnFormatOfJoinAtAnyCutSpec)) fnFormatOfJoinAtAnyCutCard
end Rows
end Go.Proofs.Qxb6630591aDoor
