/-
  No cell of these rows narrows 'for every input' (looked for: loops, veiled, ifaces, maps, wideKeys, modest, calm, conditions, laid).
  DERIVED. THE GIVEN ROWS OF THIS SEAT. 1 by the template 'for every input the law returns true; each argument reads behind the call as it read before'; 0 by the template 'total and deterministic' (their statements: Qxb6618458aTotals.lean).
  GIVEN WITH THE SEED: the statements are not yours to turn. If you find one false, say at which input.
  Laid BY PROGRAM, IN A SANDBOX (cutbox-rows.mjs): the forced cells as the released guide's own fill.sh prints them over the translation cf519cec0f69c200… (all of the seat's roots in one cut). By AI agents, Wed Nov 11 2026. No macro, syntax, notation, axiom, sorry.
-/
import Derived.Test.Qxb6618458aChecked
import GoSem.Claim
import GoSem.ClaimJoined
import GoSem.ClaimMapViews
import Derived.JoinedTies
import Derived.KernelRfl
namespace Go.Proofs.Qxb6618458a
/- THE CELL 'sum', in the pinned program and in every row, IS THE sha256 OF THE DUMP (.gsa) THAT Qxb6618458aProg.lean LOADS. Nothing in Lean hashes anything: it is a label: what it is worth is what the hold of that sum in a sandbox is worth. -/
noncomputable def Try.pinned : Pinned := { name := "qxb6618458a", sum := "cf519cec0f69c20042f64b53f3eb770666eeef1736d201bc585fb93fbba1957a", checked := Try.checked }
namespace Rows
def none {H : Type} : Left H := { results := [], args := [] }

/-- 'zzlaws_internal_model_b1.FnAccessOnIsCodesReachableFromHeld': WHATEVER THE INPUT: true; the input reads as it did. -/
def fnAccessOnIsCodesReachableFromHeldSpec : ChangeSpec := { name := "fnAccessOnIsCodesReachableFromHeld", fn := fun _ => fun
  | [d1, d2] => { results := [.lit (.bool true)], args := [d1, d2] }
  | _ => none }
def fnAccessOnIsCodesReachableFromHeldRow : OpenClaim := { program := "qxb6618458a", sum := "cf519cec0f69c20042f64b53f3eb770666eeef1736d201bc585fb93fbba1957a", func := "example.com/ambit/ambit/zzlaws_internal_model_b1.FnAccessOnIsCodesReachableFromHeld", spec := "fnAccessOnIsCodesReachableFromHeld", apart := false }
def FnAccessOnIsCodesReachableFromHeldSaid : Prop := fnAccessOnIsCodesReachableFromHeldRow.holds Try.pinned (OpenSpec.ofChange fnAccessOnIsCodesReachableFromHeldSpec)

/-- ITS FALSE NEIGHBOUR: 'it returns false'. Refute it at one input. -/
def fnAccessOnIsCodesReachableFromHeldWrong : ChangeSpec := { name := "fnAccessOnIsCodesReachableFromHeld", fn := fun _ => fun
  | [d1, d2] => { results := [.lit (.bool false)], args := [d1, d2] }
  | _ => none }
def FnAccessOnIsCodesReachableFromHeldWrongFalsely : Prop := fnAccessOnIsCodesReachableFromHeldRow.holds Try.pinned (OpenSpec.ofChange fnAccessOnIsCodesReachableFromHeldWrong)

end Rows
end Go.Proofs.Qxb6618458a
