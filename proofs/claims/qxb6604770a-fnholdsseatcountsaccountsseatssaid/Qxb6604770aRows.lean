/-
  No cell of these rows narrows 'for every input' (looked for: loops, veiled, ifaces, maps, wideKeys, modest, calm, conditions, laid).
  DERIVED. THE GIVEN ROWS OF THIS SEAT. 2 by the template 'for every input the law returns true; each argument reads behind the call as it read before'; 0 by the template 'total and deterministic' (their statements: Qxb6604770aTotals.lean).
  GIVEN WITH THE SEED: the statements are not yours to turn. If you find one false, say at which input.
  Laid BY PROGRAM, IN A SANDBOX (cutbox-rows.mjs): the forced cells as the released guide's own fill.sh prints them over the translation 07e3dc6d460f44b1… (all of the seat's roots in one cut). By AI agents, Wed Nov 11 2026. No macro, syntax, notation, axiom, sorry.
-/
import Derived.Test.Qxb6604770aChecked
import GoSem.Claim
import GoSem.ClaimJoined
import GoSem.ClaimMapViews
import Derived.JoinedTies
import Derived.KernelRfl
namespace Go.Proofs.Qxb6604770a
/- THE CELL 'sum', in the pinned program and in every row, IS THE sha256 OF THE DUMP (.gsa) THAT Qxb6604770aProg.lean LOADS. Nothing in Lean hashes anything: it is a label: what it is worth is what the hold of that sum in a sandbox is worth. -/
noncomputable def Try.pinned : Pinned := { name := "qxb6604770a", sum := "07e3dc6d460f44b12717b9515149cbf63f62d7d1e213f662c51ea207a9eba8c7", checked := Try.checked }
namespace Rows
def none {H : Type} : Left H := { results := [], args := [] }

/-- 'zzlaws_root_b1.FnHoldsSeatMeansSeatAmongAccountsSeats': WHATEVER THE INPUT: true; the input reads as it did. -/
def fnHoldsSeatMeansSeatAmongAccountsSeatsSpec : ChangeSpec := { name := "fnHoldsSeatMeansSeatAmongAccountsSeats", fn := fun _ => fun
  | [d1, d2, d3] => { results := [.lit (.bool true)], args := [d1, d2, d3] }
  | _ => none }
def fnHoldsSeatMeansSeatAmongAccountsSeatsRow : OpenClaim := { program := "qxb6604770a", sum := "07e3dc6d460f44b12717b9515149cbf63f62d7d1e213f662c51ea207a9eba8c7", func := "example.com/greylot/greylot/zzlaws_root_b1.FnHoldsSeatMeansSeatAmongAccountsSeats", spec := "fnHoldsSeatMeansSeatAmongAccountsSeats", apart := false }
def FnHoldsSeatMeansSeatAmongAccountsSeatsSaid : Prop := fnHoldsSeatMeansSeatAmongAccountsSeatsRow.holds Try.pinned (OpenSpec.ofChange fnHoldsSeatMeansSeatAmongAccountsSeatsSpec)

/-- ITS FALSE NEIGHBOUR: 'it returns false'. Refute it at one input. -/
def fnHoldsSeatMeansSeatAmongAccountsSeatsWrong : ChangeSpec := { name := "fnHoldsSeatMeansSeatAmongAccountsSeats", fn := fun _ => fun
  | [d1, d2, d3] => { results := [.lit (.bool false)], args := [d1, d2, d3] }
  | _ => none }
def FnHoldsSeatMeansSeatAmongAccountsSeatsWrongFalsely : Prop := fnHoldsSeatMeansSeatAmongAccountsSeatsRow.holds Try.pinned (OpenSpec.ofChange fnHoldsSeatMeansSeatAmongAccountsSeatsWrong)

/-- 'zzlaws_root_b1.FnHoldsSeatCountsAccountsSeats': WHATEVER THE INPUT: true; the input reads as it did. -/
def fnHoldsSeatCountsAccountsSeatsSpec : ChangeSpec := { name := "fnHoldsSeatCountsAccountsSeats", fn := fun _ => fun
  | [d1, d2] => { results := [.lit (.bool true)], args := [d1, d2] }
  | _ => none }
def fnHoldsSeatCountsAccountsSeatsRow : OpenClaim := { program := "qxb6604770a", sum := "07e3dc6d460f44b12717b9515149cbf63f62d7d1e213f662c51ea207a9eba8c7", func := "example.com/greylot/greylot/zzlaws_root_b1.FnHoldsSeatCountsAccountsSeats", spec := "fnHoldsSeatCountsAccountsSeats", apart := false }
def FnHoldsSeatCountsAccountsSeatsSaid : Prop := fnHoldsSeatCountsAccountsSeatsRow.holds Try.pinned (OpenSpec.ofChange fnHoldsSeatCountsAccountsSeatsSpec)

/-- ITS FALSE NEIGHBOUR: 'it returns false'. Refute it at one input. -/
def fnHoldsSeatCountsAccountsSeatsWrong : ChangeSpec := { name := "fnHoldsSeatCountsAccountsSeats", fn := fun _ => fun
  | [d1, d2] => { results := [.lit (.bool false)], args := [d1, d2] }
  | _ => none }
def FnHoldsSeatCountsAccountsSeatsWrongFalsely : Prop := fnHoldsSeatCountsAccountsSeatsRow.holds Try.pinned (OpenSpec.ofChange fnHoldsSeatCountsAccountsSeatsWrong)

end Rows
end Go.Proofs.Qxb6604770a
