/-
  No cell of these rows narrows 'for every input' (looked for: loops, veiled, ifaces, maps, wideKeys, modest, calm, conditions, laid).
  DERIVED. THE GIVEN ROWS OF THIS SEAT. 1 by the template 'for every input the law returns true; each argument reads behind the call as it read before'; 0 by the template 'total and deterministic' (their statements: Qxb6623271aTotals.lean).
  GIVEN WITH THE SEED: the statements are not yours to turn. If you find one false, say at which input.
  Laid BY PROGRAM, IN A SANDBOX (cutbox-rows.mjs): the forced cells as the released guide's own fill.sh prints them over the translation 48244f3b5e8c255c… (all of the seat's roots in one cut). By AI agents, Wed Nov 11 2026. No macro, syntax, notation, axiom, sorry.
-/
import Derived.Test.Qxb6623271aChecked
import GoSem.Claim
import GoSem.ClaimJoined
import GoSem.ClaimMapViews
import Derived.JoinedTies
import Derived.KernelRfl
namespace Go.Proofs.Qxb6623271a
/- THE CELL 'sum', in the pinned program and in every row, IS THE sha256 OF THE DUMP (.gsa) THAT Qxb6623271aProg.lean LOADS. Nothing in Lean hashes anything: it is a label: what it is worth is what the hold of that sum in a sandbox is worth. -/
noncomputable def Try.pinned : Pinned := { name := "qxb6623271a", sum := "48244f3b5e8c255c9d4fe0ce8a100b982c6b518e547f56bb51d6135d3ef59fbe", checked := Try.checked }
namespace Rows
def none {H : Type} : Left H := { results := [], args := [] }

/-- 'zzlaws_root_b1.FnNumberLiteralMatchesAutomaton': WHATEVER THE INPUT: true; the input reads as it did. -/
def fnNumberLiteralMatchesAutomatonSpec : ChangeSpec := { name := "fnNumberLiteralMatchesAutomaton", fn := fun _ => fun
  | [d] => { results := [.lit (.bool true)], args := [d] }
  | _ => none }
def fnNumberLiteralMatchesAutomatonRow : OpenClaim := { program := "qxb6623271a", sum := "48244f3b5e8c255c9d4fe0ce8a100b982c6b518e547f56bb51d6135d3ef59fbe", func := "example.com/firm-types/firm-types/zzlaws_root_b1.FnNumberLiteralMatchesAutomaton", spec := "fnNumberLiteralMatchesAutomaton", apart := false }
def FnNumberLiteralMatchesAutomatonSaid : Prop := fnNumberLiteralMatchesAutomatonRow.holds Try.pinned (OpenSpec.ofChange fnNumberLiteralMatchesAutomatonSpec)

/-- ITS FALSE NEIGHBOUR: 'it returns false'. Refute it at one input. -/
def fnNumberLiteralMatchesAutomatonWrong : ChangeSpec := { name := "fnNumberLiteralMatchesAutomaton", fn := fun _ => fun
  | [d] => { results := [.lit (.bool false)], args := [d] }
  | _ => none }
def FnNumberLiteralMatchesAutomatonWrongFalsely : Prop := fnNumberLiteralMatchesAutomatonRow.holds Try.pinned (OpenSpec.ofChange fnNumberLiteralMatchesAutomatonWrong)

end Rows
end Go.Proofs.Qxb6623271a
