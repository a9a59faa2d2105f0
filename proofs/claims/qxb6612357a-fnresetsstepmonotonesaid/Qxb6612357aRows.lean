/-
  No cell of these rows narrows 'for every input' (looked for: loops, veiled, ifaces, maps, wideKeys, modest, calm, conditions, laid).
  DERIVED. THE GIVEN ROWS OF THIS SEAT. 1 by the template 'for every input the law returns true; each argument reads behind the call as it read before'; 0 by the template 'total and deterministic' (their statements: Qxb6612357aTotals.lean).
  GIVEN WITH THE SEED: the statements are not yours to turn. If you find one false, say at which input.
  Laid BY PROGRAM, IN A SANDBOX (cutbox-rows.mjs): the forced cells as the released guide's own fill.sh prints them over the translation 6daec7b2da2eb86c… (all of the seat's roots in one cut). By AI agents, Wed Nov 11 2026. No macro, syntax, notation, axiom, sorry.
-/
import Derived.Test.Qxb6612357aChecked
import GoSem.Claim
import GoSem.ClaimJoined
import GoSem.ClaimMapViews
import Derived.JoinedTies
import Derived.KernelRfl
namespace Go.Proofs.Qxb6612357a
/- THE CELL 'sum', in the pinned program and in every row, IS THE sha256 OF THE DUMP (.gsa) THAT Qxb6612357aProg.lean LOADS. Nothing in Lean hashes anything: it is a label: what it is worth is what the hold of that sum in a sandbox is worth. -/
noncomputable def Try.pinned : Pinned := { name := "qxb6612357a", sum := "6daec7b2da2eb86c1eb2edd5c73541352ce37a18e5dc2908b920d603c40f4de2", checked := Try.checked }
namespace Rows
def none {H : Type} : Left H := { results := [], args := [] }

/-- 'zzlaws_root_b1.FnResetsStepMonotone': WHATEVER THE INPUT: true; the input reads as it did. -/
def fnResetsStepMonotoneSpec : ChangeSpec := { name := "fnResetsStepMonotone", fn := fun _ => fun
  | [d1, d2, d3, d4, d5, d6] => { results := [.lit (.bool true)], args := [d1, d2, d3, d4, d5, d6] }
  | _ => none }
def fnResetsStepMonotoneRow : OpenClaim := { program := "qxb6612357a", sum := "6daec7b2da2eb86c1eb2edd5c73541352ce37a18e5dc2908b920d603c40f4de2", func := "example.com/ovrsee/ovrsee/zzlaws_root_b1.FnResetsStepMonotone", spec := "fnResetsStepMonotone", inPlace := ["math.Float64bits", "math.Float64frombits"], apart := false }
def FnResetsStepMonotoneSaid : Prop := fnResetsStepMonotoneRow.holds Try.pinned (OpenSpec.ofChange fnResetsStepMonotoneSpec)

/-- ITS FALSE NEIGHBOUR: 'it returns false'. Refute it at one input. -/
def fnResetsStepMonotoneWrong : ChangeSpec := { name := "fnResetsStepMonotone", fn := fun _ => fun
  | [d1, d2, d3, d4, d5, d6] => { results := [.lit (.bool false)], args := [d1, d2, d3, d4, d5, d6] }
  | _ => none }
def FnResetsStepMonotoneWrongFalsely : Prop := fnResetsStepMonotoneRow.holds Try.pinned (OpenSpec.ofChange fnResetsStepMonotoneWrong)

end Rows
end Go.Proofs.Qxb6612357a
