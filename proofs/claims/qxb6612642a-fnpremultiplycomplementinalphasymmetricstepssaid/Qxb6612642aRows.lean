/-
  No cell of these rows narrows 'for every input' (looked for: loops, veiled, ifaces, maps, wideKeys, modest, calm, conditions, laid).
  DERIVED. THE GIVEN ROWS OF THIS SEAT. 2 by the template 'for every input the law returns true; each argument reads behind the call as it read before'; 0 by the template 'total and deterministic' (their statements: Qxb6612642aTotals.lean).
  GIVEN WITH THE SEED: the statements are not yours to turn. If you find one false, say at which input.
  Laid BY PROGRAM, IN A SANDBOX (cutbox-rows.mjs): the forced cells as the released guide's own fill.sh prints them over the translation e816d0ddcbee63f6… (all of the seat's roots in one cut). By AI agents, Wed Nov 11 2026. No macro, syntax, notation, axiom, sorry.
-/
import Derived.Test.Qxb6612642aChecked
import GoSem.Claim
import GoSem.ClaimJoined
import GoSem.ClaimMapViews
import Derived.JoinedTies
import Derived.KernelRfl
namespace Go.Proofs.Qxb6612642a
/- THE CELL 'sum', in the pinned program and in every row, IS THE sha256 OF THE DUMP (.gsa) THAT Qxb6612642aProg.lean LOADS. Nothing in Lean hashes anything: it is a label: what it is worth is what the hold of that sum in a sandbox is worth. -/
noncomputable def Try.pinned : Pinned := { name := "qxb6612642a", sum := "e816d0ddcbee63f6ef36c1a85ee72b78eb1304253f41c91d7c591326f51bb4ab", checked := Try.checked }
namespace Rows
def none {H : Type} : Left H := { results := [], args := [] }

/-- 'zzlaws_internal_rendition_b1.FnPremultiplyComplementInColour': WHATEVER THE INPUT: true; the input reads as it did. -/
def fnPremultiplyComplementInColourSpec : ChangeSpec := { name := "fnPremultiplyComplementInColour", fn := fun _ => fun
  | [d1, d2] => { results := [.lit (.bool true)], args := [d1, d2] }
  | _ => none }
def fnPremultiplyComplementInColourRow : OpenClaim := { program := "qxb6612642a", sum := "e816d0ddcbee63f6ef36c1a85ee72b78eb1304253f41c91d7c591326f51bb4ab", func := "example.com/enclosure/enclosure/zzlaws_internal_rendition_b1.FnPremultiplyComplementInColour", spec := "fnPremultiplyComplementInColour", apart := false }
def FnPremultiplyComplementInColourSaid : Prop := fnPremultiplyComplementInColourRow.holds Try.pinned (OpenSpec.ofChange fnPremultiplyComplementInColourSpec)

/-- ITS FALSE NEIGHBOUR: 'it returns false'. Refute it at one input. -/
def fnPremultiplyComplementInColourWrong : ChangeSpec := { name := "fnPremultiplyComplementInColour", fn := fun _ => fun
  | [d1, d2] => { results := [.lit (.bool false)], args := [d1, d2] }
  | _ => none }
def FnPremultiplyComplementInColourWrongFalsely : Prop := fnPremultiplyComplementInColourRow.holds Try.pinned (OpenSpec.ofChange fnPremultiplyComplementInColourWrong)

/-- 'zzlaws_internal_rendition_b1.FnPremultiplyComplementInAlphaSymmetricSteps': WHATEVER THE INPUT: true; the input reads as it did. -/
def fnPremultiplyComplementInAlphaSymmetricStepsSpec : ChangeSpec := { name := "fnPremultiplyComplementInAlphaSymmetricSteps", fn := fun _ => fun
  | [d1, d2] => { results := [.lit (.bool true)], args := [d1, d2] }
  | _ => none }
def fnPremultiplyComplementInAlphaSymmetricStepsRow : OpenClaim := { program := "qxb6612642a", sum := "e816d0ddcbee63f6ef36c1a85ee72b78eb1304253f41c91d7c591326f51bb4ab", func := "example.com/enclosure/enclosure/zzlaws_internal_rendition_b1.FnPremultiplyComplementInAlphaSymmetricSteps", spec := "fnPremultiplyComplementInAlphaSymmetricSteps", apart := false }
def FnPremultiplyComplementInAlphaSymmetricStepsSaid : Prop := fnPremultiplyComplementInAlphaSymmetricStepsRow.holds Try.pinned (OpenSpec.ofChange fnPremultiplyComplementInAlphaSymmetricStepsSpec)

/-- ITS FALSE NEIGHBOUR: 'it returns false'. Refute it at one input. -/
def fnPremultiplyComplementInAlphaSymmetricStepsWrong : ChangeSpec := { name := "fnPremultiplyComplementInAlphaSymmetricSteps", fn := fun _ => fun
  | [d1, d2] => { results := [.lit (.bool false)], args := [d1, d2] }
  | _ => none }
def FnPremultiplyComplementInAlphaSymmetricStepsWrongFalsely : Prop := fnPremultiplyComplementInAlphaSymmetricStepsRow.holds Try.pinned (OpenSpec.ofChange fnPremultiplyComplementInAlphaSymmetricStepsWrong)

end Rows
end Go.Proofs.Qxb6612642a
