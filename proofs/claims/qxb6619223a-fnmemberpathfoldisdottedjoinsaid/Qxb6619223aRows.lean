/-
  No cell of these rows narrows 'for every input' (looked for: loops, veiled, ifaces, maps, wideKeys, modest, calm, conditions, laid).
  DERIVED. THE GIVEN ROWS OF THIS SEAT. 4 by the template 'for every input the law returns true; each argument reads behind the call as it read before'; 0 by the template 'total and deterministic' (their statements: Qxb6619223aTotals.lean).
  GIVEN WITH THE SEED: the statements are not yours to turn. If you find one false, say at which input.
  Laid BY PROGRAM, IN A SANDBOX (cutbox-rows.mjs): the forced cells as the released guide's own fill.sh prints them over the translation 95170efd04aabd96… (all of the seat's roots in one cut). By AI agents, Wed Nov 11 2026. No macro, syntax, notation, axiom, sorry.
-/
import Derived.Test.Qxb6619223aChecked
import GoSem.Claim
import GoSem.ClaimJoined
import GoSem.ClaimMapViews
import Derived.JoinedTies
import Derived.KernelRfl
namespace Go.Proofs.Qxb6619223a
/- THE CELL 'sum', in the pinned program and in every row, IS THE sha256 OF THE DUMP (.gsa) THAT Qxb6619223aProg.lean LOADS. Nothing in Lean hashes anything: it is a label: what it is worth is what the hold of that sum in a sandbox is worth. -/
noncomputable def Try.pinned : Pinned := { name := "qxb6619223a", sum := "95170efd04aabd96b49b5a5c2c1bbe03b08121ce4c2fa814393ba6f0e923a991", checked := Try.checked }
namespace Rows
def none {H : Type} : Left H := { results := [], args := [] }

/-- 'zzlaws_root_b1.FnCompareMatchesBorrowSign': WHATEVER THE INPUT: true; the input reads as it did. -/
def fnCompareMatchesBorrowSignSpec : ChangeSpec := { name := "fnCompareMatchesBorrowSign", fn := fun _ => fun
  | [d1, d2] => { results := [.lit (.bool true)], args := [d1, d2] }
  | _ => none }
def fnCompareMatchesBorrowSignRow : OpenClaim := { program := "qxb6619223a", sum := "95170efd04aabd96b49b5a5c2c1bbe03b08121ce4c2fa814393ba6f0e923a991", func := "example.com/kojinsai/kojinsai/zzlaws_root_b1.FnCompareMatchesBorrowSign", spec := "fnCompareMatchesBorrowSign", apart := false }
def FnCompareMatchesBorrowSignSaid : Prop := fnCompareMatchesBorrowSignRow.holds Try.pinned (OpenSpec.ofChange fnCompareMatchesBorrowSignSpec)

/-- ITS FALSE NEIGHBOUR: 'it returns false'. Refute it at one input. -/
def fnCompareMatchesBorrowSignWrong : ChangeSpec := { name := "fnCompareMatchesBorrowSign", fn := fun _ => fun
  | [d1, d2] => { results := [.lit (.bool false)], args := [d1, d2] }
  | _ => none }
def FnCompareMatchesBorrowSignWrongFalsely : Prop := fnCompareMatchesBorrowSignRow.holds Try.pinned (OpenSpec.ofChange fnCompareMatchesBorrowSignWrong)

/-- 'zzlaws_root_b1.FnCompareLexicographicHalvesAndComplement': WHATEVER THE INPUT: true; the input reads as it did. -/
def fnCompareLexicographicHalvesAndComplementSpec : ChangeSpec := { name := "fnCompareLexicographicHalvesAndComplement", fn := fun _ => fun
  | [d1, d2] => { results := [.lit (.bool true)], args := [d1, d2] }
  | _ => none }
def fnCompareLexicographicHalvesAndComplementRow : OpenClaim := { program := "qxb6619223a", sum := "95170efd04aabd96b49b5a5c2c1bbe03b08121ce4c2fa814393ba6f0e923a991", func := "example.com/kojinsai/kojinsai/zzlaws_root_b1.FnCompareLexicographicHalvesAndComplement", spec := "fnCompareLexicographicHalvesAndComplement", apart := false }
def FnCompareLexicographicHalvesAndComplementSaid : Prop := fnCompareLexicographicHalvesAndComplementRow.holds Try.pinned (OpenSpec.ofChange fnCompareLexicographicHalvesAndComplementSpec)

/-- ITS FALSE NEIGHBOUR: 'it returns false'. Refute it at one input. -/
def fnCompareLexicographicHalvesAndComplementWrong : ChangeSpec := { name := "fnCompareLexicographicHalvesAndComplement", fn := fun _ => fun
  | [d1, d2] => { results := [.lit (.bool false)], args := [d1, d2] }
  | _ => none }
def FnCompareLexicographicHalvesAndComplementWrongFalsely : Prop := fnCompareLexicographicHalvesAndComplementRow.holds Try.pinned (OpenSpec.ofChange fnCompareLexicographicHalvesAndComplementWrong)

/-- 'zzlaws_root_b1.FnMemberPathFoldIsDottedJoin': WHATEVER THE INPUT: true; the input reads as it did. -/
def fnMemberPathFoldIsDottedJoinSpec : ChangeSpec := { name := "fnMemberPathFoldIsDottedJoin", fn := fun _ => fun
  | [d1, d2] => { results := [.lit (.bool true)], args := [d1, d2] }
  | _ => none }
def fnMemberPathFoldIsDottedJoinRow : OpenClaim := { program := "qxb6619223a", sum := "95170efd04aabd96b49b5a5c2c1bbe03b08121ce4c2fa814393ba6f0e923a991", func := "example.com/kojinsai/kojinsai/zzlaws_root_b1.FnMemberPathFoldIsDottedJoin", spec := "fnMemberPathFoldIsDottedJoin", apart := false }
def FnMemberPathFoldIsDottedJoinSaid : Prop := fnMemberPathFoldIsDottedJoinRow.holds Try.pinned (OpenSpec.ofChange fnMemberPathFoldIsDottedJoinSpec)

/-- ITS FALSE NEIGHBOUR: 'it returns false'. Refute it at one input. -/
def fnMemberPathFoldIsDottedJoinWrong : ChangeSpec := { name := "fnMemberPathFoldIsDottedJoin", fn := fun _ => fun
  | [d1, d2] => { results := [.lit (.bool false)], args := [d1, d2] }
  | _ => none }
def FnMemberPathFoldIsDottedJoinWrongFalsely : Prop := fnMemberPathFoldIsDottedJoinRow.holds Try.pinned (OpenSpec.ofChange fnMemberPathFoldIsDottedJoinWrong)

/-- 'zzlaws_root_b1.FnMemberPathCutAtNonEmptyName': WHATEVER THE INPUT: true; the input reads as it did. -/
def fnMemberPathCutAtNonEmptyNameSpec : ChangeSpec := { name := "fnMemberPathCutAtNonEmptyName", fn := fun _ => fun
  | [d1, d2, d3] => { results := [.lit (.bool true)], args := [d1, d2, d3] }
  | _ => none }
def fnMemberPathCutAtNonEmptyNameRow : OpenClaim := { program := "qxb6619223a", sum := "95170efd04aabd96b49b5a5c2c1bbe03b08121ce4c2fa814393ba6f0e923a991", func := "example.com/kojinsai/kojinsai/zzlaws_root_b1.FnMemberPathCutAtNonEmptyName", spec := "fnMemberPathCutAtNonEmptyName", apart := false }
def FnMemberPathCutAtNonEmptyNameSaid : Prop := fnMemberPathCutAtNonEmptyNameRow.holds Try.pinned (OpenSpec.ofChange fnMemberPathCutAtNonEmptyNameSpec)

/-- ITS FALSE NEIGHBOUR: 'it returns false'. Refute it at one input. -/
def fnMemberPathCutAtNonEmptyNameWrong : ChangeSpec := { name := "fnMemberPathCutAtNonEmptyName", fn := fun _ => fun
  | [d1, d2, d3] => { results := [.lit (.bool false)], args := [d1, d2, d3] }
  | _ => none }
def FnMemberPathCutAtNonEmptyNameWrongFalsely : Prop := fnMemberPathCutAtNonEmptyNameRow.holds Try.pinned (OpenSpec.ofChange fnMemberPathCutAtNonEmptyNameWrong)

end Rows
end Go.Proofs.Qxb6619223a
