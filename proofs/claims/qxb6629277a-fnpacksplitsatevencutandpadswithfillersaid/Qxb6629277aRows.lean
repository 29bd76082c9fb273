/-
  No cell of these rows narrows 'for every input' (looked for: loops, veiled, ifaces, maps, wideKeys, modest, calm, conditions, laid).
  DERIVED. THE GIVEN ROWS OF THIS SEAT. 2 by the template 'for every input the law returns true; each argument reads behind the call as it read before'; 0 by the template 'total and deterministic' (their statements: Qxb6629277aTotals.lean).
  GIVEN WITH THE SEED: the statements are not yours to turn. If you find one false, say at which input.
  Laid BY PROGRAM, IN A SANDBOX (cutbox-rows.mjs): the forced cells as the released guide's own fill.sh prints them over the translation ad252c4b9bd76e19… (all of the seat's roots in one cut). By AI agents, Wed Nov 11 2026. No macro, syntax, notation, axiom, sorry.
-/
import Derived.Test.Qxb6629277aChecked
import GoSem.Claim
import GoSem.ClaimJoined
import GoSem.ClaimMapViews
import Derived.JoinedTies
import Derived.KernelRfl
namespace Go.Proofs.Qxb6629277a
/- THE CELL 'sum', in the pinned program and in every row, IS THE sha256 OF THE DUMP (.gsa) THAT Qxb6629277aProg.lean LOADS. Nothing in Lean hashes anything: it is a label: what it is worth is what the hold of that sum in a sandbox is worth. -/
noncomputable def Try.pinned : Pinned := { name := "qxb6629277a", sum := "ad252c4b9bd76e1900e5f74634b0aaac815fe9fdcbc701a6d7be7b7ef14c962d", checked := Try.checked }
namespace Rows
def none {H : Type} : Left H := { results := [], args := [] }

/-- 'zzlaws_internal_bcd_b1.FnPackReadsBackAsTheDigits': WHATEVER THE INPUT: true; the input reads as it did. -/
def fnPackReadsBackAsTheDigitsSpec : ChangeSpec := { name := "fnPackReadsBackAsTheDigits", fn := fun _ => fun
  | [d] => { results := [.lit (.bool true)], args := [d] }
  | _ => none }
def fnPackReadsBackAsTheDigitsRow : OpenClaim := { program := "qxb6629277a", sum := "ad252c4b9bd76e1900e5f74634b0aaac815fe9fdcbc701a6d7be7b7ef14c962d", func := "example.com/handclasp/handclasp/zzlaws_internal_bcd_b1.FnPackReadsBackAsTheDigits", spec := "fnPackReadsBackAsTheDigits", apart := false }
def FnPackReadsBackAsTheDigitsSaid : Prop := fnPackReadsBackAsTheDigitsRow.holds Try.pinned (OpenSpec.ofChange fnPackReadsBackAsTheDigitsSpec)

/-- ITS FALSE NEIGHBOUR: 'it returns false'. Refute it at one input. -/
def fnPackReadsBackAsTheDigitsWrong : ChangeSpec := { name := "fnPackReadsBackAsTheDigits", fn := fun _ => fun
  | [d] => { results := [.lit (.bool false)], args := [d] }
  | _ => none }
def FnPackReadsBackAsTheDigitsWrongFalsely : Prop := fnPackReadsBackAsTheDigitsRow.holds Try.pinned (OpenSpec.ofChange fnPackReadsBackAsTheDigitsWrong)

/-- 'zzlaws_internal_bcd_b1.FnPackSplitsAtEvenCutAndPadsWithFiller': WHATEVER THE INPUT: true; the input reads as it did. -/
def fnPackSplitsAtEvenCutAndPadsWithFillerSpec : ChangeSpec := { name := "fnPackSplitsAtEvenCutAndPadsWithFiller", fn := fun _ => fun
  | [d1, d2] => { results := [.lit (.bool true)], args := [d1, d2] }
  | _ => none }
def fnPackSplitsAtEvenCutAndPadsWithFillerRow : OpenClaim := { program := "qxb6629277a", sum := "ad252c4b9bd76e1900e5f74634b0aaac815fe9fdcbc701a6d7be7b7ef14c962d", func := "example.com/handclasp/handclasp/zzlaws_internal_bcd_b1.FnPackSplitsAtEvenCutAndPadsWithFiller", spec := "fnPackSplitsAtEvenCutAndPadsWithFiller", apart := false }
def FnPackSplitsAtEvenCutAndPadsWithFillerSaid : Prop := fnPackSplitsAtEvenCutAndPadsWithFillerRow.holds Try.pinned (OpenSpec.ofChange fnPackSplitsAtEvenCutAndPadsWithFillerSpec)

/-- ITS FALSE NEIGHBOUR: 'it returns false'. Refute it at one input. -/
def fnPackSplitsAtEvenCutAndPadsWithFillerWrong : ChangeSpec := { name := "fnPackSplitsAtEvenCutAndPadsWithFiller", fn := fun _ => fun
  | [d1, d2] => { results := [.lit (.bool false)], args := [d1, d2] }
  | _ => none }
def FnPackSplitsAtEvenCutAndPadsWithFillerWrongFalsely : Prop := fnPackSplitsAtEvenCutAndPadsWithFillerRow.holds Try.pinned (OpenSpec.ofChange fnPackSplitsAtEvenCutAndPadsWithFillerWrong)

end Rows
end Go.Proofs.Qxb6629277a
