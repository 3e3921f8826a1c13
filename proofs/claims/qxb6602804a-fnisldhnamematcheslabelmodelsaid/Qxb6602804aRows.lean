/-
  No cell of these rows narrows 'for every input' (looked for: loops, veiled, ifaces, maps, wideKeys, modest, calm, conditions, laid).
  DERIVED. THE GIVEN ROWS OF THIS SEAT. 4 by the template 'for every input the law returns true; each argument reads behind the call as it read before'; 0 by the template 'total and deterministic' (their statements: Qxb6602804aTotals.lean).
  GIVEN WITH THE SEED: the statements are not yours to turn. If you find one false, say at which input.
  Laid BY PROGRAM, IN A SANDBOX (cutbox-rows.mjs): the forced cells as the released guide's own fill.sh prints them over the translation edc306561f33ab18… (all of the seat's roots in one cut). By AI agents, Wed Nov 11 2026. No macro, syntax, notation, axiom, sorry.
-/
import Derived.Test.Qxb6602804aChecked
import GoSem.Claim
import GoSem.ClaimJoined
import GoSem.ClaimMapViews
import Derived.JoinedTies
import Derived.KernelRfl
namespace Go.Proofs.Qxb6602804a
/- THE CELL 'sum', in the pinned program and in every row, IS THE sha256 OF THE DUMP (.gsa) THAT Qxb6602804aProg.lean LOADS. Nothing in Lean hashes anything: it is a label: what it is worth is what the hold of that sum in a sandbox is worth. -/
noncomputable def Try.pinned : Pinned := { name := "qxb6602804a", sum := "edc306561f33ab182475efbe8e6c7bcc148d420c2b6e2005fb965a5c5ad8e0fd", checked := Try.checked }
namespace Rows
def none {H : Type} : Left H := { results := [], args := [] }

/-- 'zzlaws_root_b1.FnDecimalMatchesRightToLeft': WHATEVER THE INPUT: true; the input reads as it did. -/
def fnDecimalMatchesRightToLeftSpec : ChangeSpec := { name := "fnDecimalMatchesRightToLeft", fn := fun _ => fun
  | [d] => { results := [.lit (.bool true)], args := [d] }
  | _ => none }
def fnDecimalMatchesRightToLeftRow : OpenClaim := { program := "qxb6602804a", sum := "edc306561f33ab182475efbe8e6c7bcc148d420c2b6e2005fb965a5c5ad8e0fd", func := "example.com/regroute/regroute/zzlaws_root_b1.FnDecimalMatchesRightToLeft", spec := "fnDecimalMatchesRightToLeft", apart := false }
def FnDecimalMatchesRightToLeftSaid : Prop := fnDecimalMatchesRightToLeftRow.holds Try.pinned (OpenSpec.ofChange fnDecimalMatchesRightToLeftSpec)

/-- ITS FALSE NEIGHBOUR: 'it returns false'. Refute it at one input. -/
def fnDecimalMatchesRightToLeftWrong : ChangeSpec := { name := "fnDecimalMatchesRightToLeft", fn := fun _ => fun
  | [d] => { results := [.lit (.bool false)], args := [d] }
  | _ => none }
def FnDecimalMatchesRightToLeftWrongFalsely : Prop := fnDecimalMatchesRightToLeftRow.holds Try.pinned (OpenSpec.ofChange fnDecimalMatchesRightToLeftWrong)

/-- 'zzlaws_root_b1.FnDecimalConcat': WHATEVER THE INPUT: true; the input reads as it did. -/
def fnDecimalConcatSpec : ChangeSpec := { name := "fnDecimalConcat", fn := fun _ => fun
  | [d1, d2] => { results := [.lit (.bool true)], args := [d1, d2] }
  | _ => none }
def fnDecimalConcatRow : OpenClaim := { program := "qxb6602804a", sum := "edc306561f33ab182475efbe8e6c7bcc148d420c2b6e2005fb965a5c5ad8e0fd", func := "example.com/regroute/regroute/zzlaws_root_b1.FnDecimalConcat", spec := "fnDecimalConcat", apart := false }
def FnDecimalConcatSaid : Prop := fnDecimalConcatRow.holds Try.pinned (OpenSpec.ofChange fnDecimalConcatSpec)

/-- ITS FALSE NEIGHBOUR: 'it returns false'. Refute it at one input. -/
def fnDecimalConcatWrong : ChangeSpec := { name := "fnDecimalConcat", fn := fun _ => fun
  | [d1, d2] => { results := [.lit (.bool false)], args := [d1, d2] }
  | _ => none }
def FnDecimalConcatWrongFalsely : Prop := fnDecimalConcatRow.holds Try.pinned (OpenSpec.ofChange fnDecimalConcatWrong)

/-- 'zzlaws_root_b1.FnIsLDHNameMatchesLabelModel': WHATEVER THE INPUT: true; the input reads as it did. -/
def fnIsLDHNameMatchesLabelModelSpec : ChangeSpec := { name := "fnIsLDHNameMatchesLabelModel", fn := fun _ => fun
  | [d] => { results := [.lit (.bool true)], args := [d] }
  | _ => none }
def fnIsLDHNameMatchesLabelModelRow : OpenClaim := { program := "qxb6602804a", sum := "edc306561f33ab182475efbe8e6c7bcc148d420c2b6e2005fb965a5c5ad8e0fd", func := "example.com/regroute/regroute/zzlaws_root_b1.FnIsLDHNameMatchesLabelModel", spec := "fnIsLDHNameMatchesLabelModel", apart := false }
def FnIsLDHNameMatchesLabelModelSaid : Prop := fnIsLDHNameMatchesLabelModelRow.holds Try.pinned (OpenSpec.ofChange fnIsLDHNameMatchesLabelModelSpec)

/-- ITS FALSE NEIGHBOUR: 'it returns false'. Refute it at one input. -/
def fnIsLDHNameMatchesLabelModelWrong : ChangeSpec := { name := "fnIsLDHNameMatchesLabelModel", fn := fun _ => fun
  | [d] => { results := [.lit (.bool false)], args := [d] }
  | _ => none }
def FnIsLDHNameMatchesLabelModelWrongFalsely : Prop := fnIsLDHNameMatchesLabelModelRow.holds Try.pinned (OpenSpec.ofChange fnIsLDHNameMatchesLabelModelWrong)

/-- 'zzlaws_root_b1.FnIsLDHNameJoin': WHATEVER THE INPUT: true; the input reads as it did. -/
def fnIsLDHNameJoinSpec : ChangeSpec := { name := "fnIsLDHNameJoin", fn := fun _ => fun
  | [d1, d2] => { results := [.lit (.bool true)], args := [d1, d2] }
  | _ => none }
def fnIsLDHNameJoinRow : OpenClaim := { program := "qxb6602804a", sum := "edc306561f33ab182475efbe8e6c7bcc148d420c2b6e2005fb965a5c5ad8e0fd", func := "example.com/regroute/regroute/zzlaws_root_b1.FnIsLDHNameJoin", spec := "fnIsLDHNameJoin", apart := false }
def FnIsLDHNameJoinSaid : Prop := fnIsLDHNameJoinRow.holds Try.pinned (OpenSpec.ofChange fnIsLDHNameJoinSpec)

/-- ITS FALSE NEIGHBOUR: 'it returns false'. Refute it at one input. -/
def fnIsLDHNameJoinWrong : ChangeSpec := { name := "fnIsLDHNameJoin", fn := fun _ => fun
  | [d1, d2] => { results := [.lit (.bool false)], args := [d1, d2] }
  | _ => none }
def FnIsLDHNameJoinWrongFalsely : Prop := fnIsLDHNameJoinRow.holds Try.pinned (OpenSpec.ofChange fnIsLDHNameJoinWrong)

end Rows
end Go.Proofs.Qxb6602804a
