/-
  No cell of these rows narrows 'for every input' (looked for: loops, veiled, ifaces, maps, wideKeys, modest, calm, conditions, laid).
  DERIVED. THE GIVEN ROWS OF THIS SEAT. 1 by the template 'for every input the law returns true; each argument reads behind the call as it read before'; 0 by the template 'total and deterministic' (their statements: Qxb6609437aTotals.lean).
  GIVEN WITH THE SEED: the statements are not yours to turn. If you find one false, say at which input.
  Laid BY PROGRAM, IN A SANDBOX (cutbox-rows.mjs): the forced cells as the released guide's own fill.sh prints them over the translation cf28d337f4c8897c… (all of the seat's roots in one cut). By AI agents, Wed Nov 11 2026. No macro, syntax, notation, axiom, sorry.
-/
import Derived.Test.Qxb6609437aChecked
import GoSem.Claim
import GoSem.ClaimJoined
import GoSem.ClaimMapViews
import Derived.JoinedTies
import Derived.KernelRfl
namespace Go.Proofs.Qxb6609437a
/- THE CELL 'sum', in the pinned program and in every row, IS THE sha256 OF THE DUMP (.gsa) THAT Qxb6609437aProg.lean LOADS. Nothing in Lean hashes anything: it is a label: what it is worth is what the hold of that sum in a sandbox is worth. -/
noncomputable def Try.pinned : Pinned := { name := "qxb6609437a", sum := "cf28d337f4c8897ccf35849eba73ead7f0a48ae292020638c0cbb3e3e2d1d834", checked := Try.checked }
namespace Rows
def none {H : Type} : Left H := { results := [], args := [] }

/-- 'zzlaws_root_b1.FnSharesValuesByConstruction': WHATEVER THE INPUT: true; the input reads as it did. -/
def fnSharesValuesByConstructionSpec : ChangeSpec := { name := "fnSharesValuesByConstruction", fn := fun _ => fun
  | [d1, d2] => { results := [.lit (.bool true)], args := [d1, d2] }
  | _ => none }
def fnSharesValuesByConstructionRow : OpenClaim := { program := "qxb6609437a", sum := "cf28d337f4c8897ccf35849eba73ead7f0a48ae292020638c0cbb3e3e2d1d834", func := "example.com/tierwell/tierwell/zzlaws_root_b1.FnSharesValuesByConstruction", spec := "fnSharesValuesByConstruction", apart := false }
def FnSharesValuesByConstructionSaid : Prop := fnSharesValuesByConstructionRow.holds Try.pinned (OpenSpec.ofChange fnSharesValuesByConstructionSpec)

/-- ITS FALSE NEIGHBOUR: 'it returns false'. Refute it at one input. -/
def fnSharesValuesByConstructionWrong : ChangeSpec := { name := "fnSharesValuesByConstruction", fn := fun _ => fun
  | [d1, d2] => { results := [.lit (.bool false)], args := [d1, d2] }
  | _ => none }
def FnSharesValuesByConstructionWrongFalsely : Prop := fnSharesValuesByConstructionRow.holds Try.pinned (OpenSpec.ofChange fnSharesValuesByConstructionWrong)

end Rows
end Go.Proofs.Qxb6609437a
