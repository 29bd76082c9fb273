/-
  No cell of these rows narrows 'for every input' (looked for: loops, veiled, ifaces, maps, wideKeys, modest, calm, conditions, laid).
  DERIVED. THE GIVEN ROWS OF THIS SEAT. 2 by the template 'for every input the law returns true; each argument reads behind the call as it read before'; 0 by the template 'total and deterministic' (their statements: Qxb6629335aTotals.lean).
  GIVEN WITH THE SEED: the statements are not yours to turn. If you find one false, say at which input.
  Laid BY PROGRAM, IN A SANDBOX (cutbox-rows.mjs): the forced cells as the released guide's own fill.sh prints them over the translation 6b39e8b157121982… (all of the seat's roots in one cut). By AI agents, Wed Nov 11 2026. No macro, syntax, notation, axiom, sorry.
-/
import Derived.Test.Qxb6629335aChecked
import GoSem.Claim
import GoSem.ClaimJoined
import GoSem.ClaimMapViews
import Derived.JoinedTies
import Derived.KernelRfl
namespace Go.Proofs.Qxb6629335a
/- THE CELL 'sum', in the pinned program and in every row, IS THE sha256 OF THE DUMP (.gsa) THAT Qxb6629335aProg.lean LOADS. Nothing in Lean hashes anything: it is a label: what it is worth is what the hold of that sum in a sandbox is worth. -/
noncomputable def Try.pinned : Pinned := { name := "qxb6629335a", sum := "6b39e8b1571219820403644a18f6e84685b9c8df2924b51ed7acbd46742ab181", checked := Try.checked }
namespace Rows
def none {H : Type} : Left H := { results := [], args := [] }

/-- 'zzlaws_base58_b1.FnEncodeMatchesDivisionModel': WHATEVER THE INPUT: true; the input reads as it did. -/
def fnEncodeMatchesDivisionModelSpec : ChangeSpec := { name := "fnEncodeMatchesDivisionModel", fn := fun _ => fun
  | [d] => { results := [.lit (.bool true)], args := [d] }
  | _ => none }
def fnEncodeMatchesDivisionModelRow : OpenClaim := { program := "qxb6629335a", sum := "6b39e8b1571219820403644a18f6e84685b9c8df2924b51ed7acbd46742ab181", func := "example.com/vouchsafe/vouchsafe/zzlaws_base58_b1.FnEncodeMatchesDivisionModel", spec := "fnEncodeMatchesDivisionModel", apart := false }
def FnEncodeMatchesDivisionModelSaid : Prop := fnEncodeMatchesDivisionModelRow.holds Try.pinned (OpenSpec.ofChange fnEncodeMatchesDivisionModelSpec)

/-- ITS FALSE NEIGHBOUR: 'it returns false'. Refute it at one input. -/
def fnEncodeMatchesDivisionModelWrong : ChangeSpec := { name := "fnEncodeMatchesDivisionModel", fn := fun _ => fun
  | [d] => { results := [.lit (.bool false)], args := [d] }
  | _ => none }
def FnEncodeMatchesDivisionModelWrongFalsely : Prop := fnEncodeMatchesDivisionModelRow.holds Try.pinned (OpenSpec.ofChange fnEncodeMatchesDivisionModelWrong)

/-- 'zzlaws_base58_b1.FnEncodeZeroPrefixAndDecodes': WHATEVER THE INPUT: true; the input reads as it did. -/
def fnEncodeZeroPrefixAndDecodesSpec : ChangeSpec := { name := "fnEncodeZeroPrefixAndDecodes", fn := fun _ => fun
  | [d] => { results := [.lit (.bool true)], args := [d] }
  | _ => none }
def fnEncodeZeroPrefixAndDecodesRow : OpenClaim := { program := "qxb6629335a", sum := "6b39e8b1571219820403644a18f6e84685b9c8df2924b51ed7acbd46742ab181", func := "example.com/vouchsafe/vouchsafe/zzlaws_base58_b1.FnEncodeZeroPrefixAndDecodes", spec := "fnEncodeZeroPrefixAndDecodes", apart := false }
def FnEncodeZeroPrefixAndDecodesSaid : Prop := fnEncodeZeroPrefixAndDecodesRow.holds Try.pinned (OpenSpec.ofChange fnEncodeZeroPrefixAndDecodesSpec)

/-- ITS FALSE NEIGHBOUR: 'it returns false'. Refute it at one input. -/
def fnEncodeZeroPrefixAndDecodesWrong : ChangeSpec := { name := "fnEncodeZeroPrefixAndDecodes", fn := fun _ => fun
  | [d] => { results := [.lit (.bool false)], args := [d] }
  | _ => none }
def FnEncodeZeroPrefixAndDecodesWrongFalsely : Prop := fnEncodeZeroPrefixAndDecodesRow.holds Try.pinned (OpenSpec.ofChange fnEncodeZeroPrefixAndDecodesWrong)

end Rows
end Go.Proofs.Qxb6629335a
