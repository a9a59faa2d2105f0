/-
  No cell of these rows narrows 'for every input' (looked for: loops, veiled, ifaces, maps, wideKeys, modest, calm, conditions, laid).
  DERIVED. THE GIVEN ROWS OF THIS SEAT. 2 by the template 'for every input the law returns true; each argument reads behind the call as it read before'; 0 by the template 'total and deterministic' (their statements: Qxb6612368aTotals.lean).
  GIVEN WITH THE SEED: the statements are not yours to turn. If you find one false, say at which input.
  Laid BY PROGRAM, IN A SANDBOX (cutbox-rows.mjs): the forced cells as the released guide's own fill.sh prints them over the translation 773a0d01d40ae937… (all of the seat's roots in one cut). By AI agents, Wed Nov 11 2026. No macro, syntax, notation, axiom, sorry.
-/
import Derived.Test.Qxb6612368aChecked
import GoSem.Claim
import GoSem.ClaimJoined
import GoSem.ClaimMapViews
import Derived.JoinedTies
import Derived.KernelRfl
namespace Go.Proofs.Qxb6612368a
/- THE CELL 'sum', in the pinned program and in every row, IS THE sha256 OF THE DUMP (.gsa) THAT Qxb6612368aProg.lean LOADS. Nothing in Lean hashes anything: it is a label: what it is worth is what the hold of that sum in a sandbox is worth. -/
noncomputable def Try.pinned : Pinned := { name := "qxb6612368a", sum := "773a0d01d40ae93788a694f7f57b5d4457a7de8933a70d4977f960c10614baaa", checked := Try.checked }
namespace Rows
def none {H : Type} : Left H := { results := [], args := [] }

/-- 'zzlaws_internal_token_b1.FnHandoffTokenAgreesWithFirstToken': WHATEVER THE INPUT: true; the input reads as it did. -/
def fnHandoffTokenAgreesWithFirstTokenSpec : ChangeSpec := { name := "fnHandoffTokenAgreesWithFirstToken", fn := fun _ => fun
  | [d1, d2, d3, d4, d5] => { results := [.lit (.bool true)], args := [d1, d2, d3, d4, d5] }
  | _ => none }
def fnHandoffTokenAgreesWithFirstTokenRow : OpenClaim := { program := "qxb6612368a", sum := "773a0d01d40ae93788a694f7f57b5d4457a7de8933a70d4977f960c10614baaa", func := "example.com/annulet/annulet/zzlaws_internal_token_b1.FnHandoffTokenAgreesWithFirstToken", spec := "fnHandoffTokenAgreesWithFirstToken", apart := false }
def FnHandoffTokenAgreesWithFirstTokenSaid : Prop := fnHandoffTokenAgreesWithFirstTokenRow.holds Try.pinned (OpenSpec.ofChange fnHandoffTokenAgreesWithFirstTokenSpec)

/-- ITS FALSE NEIGHBOUR: 'it returns false'. Refute it at one input. -/
def fnHandoffTokenAgreesWithFirstTokenWrong : ChangeSpec := { name := "fnHandoffTokenAgreesWithFirstToken", fn := fun _ => fun
  | [d1, d2, d3, d4, d5] => { results := [.lit (.bool false)], args := [d1, d2, d3, d4, d5] }
  | _ => none }
def FnHandoffTokenAgreesWithFirstTokenWrongFalsely : Prop := fnHandoffTokenAgreesWithFirstTokenRow.holds Try.pinned (OpenSpec.ofChange fnHandoffTokenAgreesWithFirstTokenWrong)

/-- 'zzlaws_internal_token_b1.FnMeasureScriptFromRest': WHATEVER THE INPUT: true; the input reads as it did. -/
def fnMeasureScriptFromRestSpec : ChangeSpec := { name := "fnMeasureScriptFromRest", fn := fun _ => fun
  | [d1, d2] => { results := [.lit (.bool true)], args := [d1, d2] }
  | _ => none }
def fnMeasureScriptFromRestRow : OpenClaim := { program := "qxb6612368a", sum := "773a0d01d40ae93788a694f7f57b5d4457a7de8933a70d4977f960c10614baaa", func := "example.com/annulet/annulet/zzlaws_internal_token_b1.FnMeasureScriptFromRest", spec := "fnMeasureScriptFromRest", apart := false }
def FnMeasureScriptFromRestSaid : Prop := fnMeasureScriptFromRestRow.holds Try.pinned (OpenSpec.ofChange fnMeasureScriptFromRestSpec)

/-- ITS FALSE NEIGHBOUR: 'it returns false'. Refute it at one input. -/
def fnMeasureScriptFromRestWrong : ChangeSpec := { name := "fnMeasureScriptFromRest", fn := fun _ => fun
  | [d1, d2] => { results := [.lit (.bool false)], args := [d1, d2] }
  | _ => none }
def FnMeasureScriptFromRestWrongFalsely : Prop := fnMeasureScriptFromRestRow.holds Try.pinned (OpenSpec.ofChange fnMeasureScriptFromRestWrong)

end Rows
end Go.Proofs.Qxb6612368a
