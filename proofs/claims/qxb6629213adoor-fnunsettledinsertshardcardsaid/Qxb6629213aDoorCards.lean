/-
  DERIVED. GIVEN WITH THE SEED: THE CARDS: each row of Qxb6629213aDoorRows.lean that lists a variable, with what it lists TIED to the program's text (the seventh form; the later family's looks); each row that meets fmt, with fmt's text TOLD by the authors' own Lean function (tested against real Go, not proved from fmt's source: count such statements apart). THE CARD IS WHAT COUNTS. Prove the row's statement (the work); the ties are given (Qxb6629213aDoorTie.lean); close each card by the builder's one call (the guide's Derived/Test/ToyasCard.lean, 'card_holds'). Laid BY PROGRAM, IN A SANDBOX (cutbox-door.mjs). By AI agents, Wed Nov 11 2026. No macro, syntax, notation, axiom, sorry.
-/
import Derived.Test.Qxb6629213aDoorRows
import GoSem.ClaimSeven
namespace Go.Proofs.Qxb6629213aDoor
namespace Rows

/-- THE TIED CARD OF 'zzlaws_admin_b1.FnUnsettledInsertShard'. -/
def fnUnsettledInsertShardCard : Claim7 := { stood := { row := fnUnsettledInsertShardRow, standIns := [], harness := (true, "8a3c64daf132e1d2d68d039cec69c5eb9be2f1fc9320b536b4ef8a4f6be51950"), looks := false }, kinds := [], alts := [], laidByText := true, laidKinds := [.data, .data, .data], laidTests := true, laidLooks := .later }
def FnUnsettledInsertShardCardSaid : Prop := Claim7.holds Tryd.pinned (.plain (OpenSpec.ofChange fnUnsettledInsertShardSpec)) fnUnsettledInsertShardCard

/-- THE TIED CARD OF 'zzlaws_admin_b1.FnUnsettledRepairShard'. -/
def fnUnsettledRepairShardCard : Claim7 := { stood := { row := fnUnsettledRepairShardRow, standIns := [], harness := (true, "8a3c64daf132e1d2d68d039cec69c5eb9be2f1fc9320b536b4ef8a4f6be51950"), looks := false }, kinds := [], alts := [], laidByText := true, laidKinds := [.data, .data, .data], laidTests := true, laidLooks := .later }
def FnUnsettledRepairShardCardSaid : Prop := Claim7.holds Tryd.pinned (.plain (OpenSpec.ofChange fnUnsettledRepairShardSpec)) fnUnsettledRepairShardCard
end Rows
end Go.Proofs.Qxb6629213aDoor
