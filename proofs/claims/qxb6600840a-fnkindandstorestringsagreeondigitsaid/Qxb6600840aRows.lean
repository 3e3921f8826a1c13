/-
  No cell of these rows narrows 'for every input' (looked for: loops, veiled, ifaces, maps, wideKeys, modest, calm, conditions, laid).
  DERIVED. THE GIVEN ROWS OF THIS SEAT. 3 by the template 'for every input the law returns true; each argument reads behind the call as it read before'; 0 by the template 'total and deterministic' (their statements: Qxb6600840aTotals.lean).
  GIVEN WITH THE SEED: the statements are not yours to turn. If you find one false, say at which input.
  Laid BY PROGRAM, IN A SANDBOX (cutbox-rows.mjs): the forced cells as the released guide's own fill.sh prints them over the translation 2ca72e802ed9301e… (all of the seat's roots in one cut). By AI agents, Wed Nov 11 2026. No macro, syntax, notation, axiom, sorry.
-/
import Derived.Test.Qxb6600840aChecked
import GoSem.Claim
import GoSem.ClaimJoined
import GoSem.ClaimMapViews
import Derived.JoinedTies
import Derived.KernelRfl
namespace Go.Proofs.Qxb6600840a
/- THE CELL 'sum', in the pinned program and in every row, IS THE sha256 OF THE DUMP (.gsa) THAT Qxb6600840aProg.lean LOADS. Nothing in Lean hashes anything: it is a label: what it is worth is what the hold of that sum in a sandbox is worth. -/
noncomputable def Try.pinned : Pinned := { name := "qxb6600840a", sum := "2ca72e802ed9301e98bbe7e7b39c21f148b385139869f7b093cb8c9e3ab7530f", checked := Try.checked }
namespace Rows
def none {H : Type} : Left H := { results := [], args := [] }

/-- 'zzlaws_pkg_flowno_b1.FnKindAndStoreStringsAgreeOnDigit': WHATEVER THE INPUT: true; the input reads as it did. -/
def fnKindAndStoreStringsAgreeOnDigitSpec : ChangeSpec := { name := "fnKindAndStoreStringsAgreeOnDigit", fn := fun _ => fun
  | [d] => { results := [.lit (.bool true)], args := [d] }
  | _ => none }
def fnKindAndStoreStringsAgreeOnDigitRow : OpenClaim := { program := "qxb6600840a", sum := "2ca72e802ed9301e98bbe7e7b39c21f148b385139869f7b093cb8c9e3ab7530f", func := "example.com/ordo/ordo/zzlaws_pkg_flowno_b1.FnKindAndStoreStringsAgreeOnDigit", spec := "fnKindAndStoreStringsAgreeOnDigit", apart := false }
def FnKindAndStoreStringsAgreeOnDigitSaid : Prop := fnKindAndStoreStringsAgreeOnDigitRow.holds Try.pinned (OpenSpec.ofChange fnKindAndStoreStringsAgreeOnDigitSpec)

/-- ITS FALSE NEIGHBOUR: 'it returns false'. Refute it at one input. -/
def fnKindAndStoreStringsAgreeOnDigitWrong : ChangeSpec := { name := "fnKindAndStoreStringsAgreeOnDigit", fn := fun _ => fun
  | [d] => { results := [.lit (.bool false)], args := [d] }
  | _ => none }
def FnKindAndStoreStringsAgreeOnDigitWrongFalsely : Prop := fnKindAndStoreStringsAgreeOnDigitRow.holds Try.pinned (OpenSpec.ofChange fnKindAndStoreStringsAgreeOnDigitWrong)

/-- 'zzlaws_pkg_flowno_b1.FnKindStringSeparatesExactlyZero': WHATEVER THE INPUT: true; the input reads as it did. -/
def fnKindStringSeparatesExactlyZeroSpec : ChangeSpec := { name := "fnKindStringSeparatesExactlyZero", fn := fun _ => fun
  | [d1, d2] => { results := [.lit (.bool true)], args := [d1, d2] }
  | _ => none }
def fnKindStringSeparatesExactlyZeroRow : OpenClaim := { program := "qxb6600840a", sum := "2ca72e802ed9301e98bbe7e7b39c21f148b385139869f7b093cb8c9e3ab7530f", func := "example.com/ordo/ordo/zzlaws_pkg_flowno_b1.FnKindStringSeparatesExactlyZero", spec := "fnKindStringSeparatesExactlyZero", apart := false }
def FnKindStringSeparatesExactlyZeroSaid : Prop := fnKindStringSeparatesExactlyZeroRow.holds Try.pinned (OpenSpec.ofChange fnKindStringSeparatesExactlyZeroSpec)

/-- ITS FALSE NEIGHBOUR: 'it returns false'. Refute it at one input. -/
def fnKindStringSeparatesExactlyZeroWrong : ChangeSpec := { name := "fnKindStringSeparatesExactlyZero", fn := fun _ => fun
  | [d1, d2] => { results := [.lit (.bool false)], args := [d1, d2] }
  | _ => none }
def FnKindStringSeparatesExactlyZeroWrongFalsely : Prop := fnKindStringSeparatesExactlyZeroRow.holds Try.pinned (OpenSpec.ofChange fnKindStringSeparatesExactlyZeroWrong)

/-- 'zzlaws_pkg_flowno_b1.FnStoreStringSeparatesExactlyZero': WHATEVER THE INPUT: true; the input reads as it did. -/
def fnStoreStringSeparatesExactlyZeroSpec : ChangeSpec := { name := "fnStoreStringSeparatesExactlyZero", fn := fun _ => fun
  | [d1, d2] => { results := [.lit (.bool true)], args := [d1, d2] }
  | _ => none }
def fnStoreStringSeparatesExactlyZeroRow : OpenClaim := { program := "qxb6600840a", sum := "2ca72e802ed9301e98bbe7e7b39c21f148b385139869f7b093cb8c9e3ab7530f", func := "example.com/ordo/ordo/zzlaws_pkg_flowno_b1.FnStoreStringSeparatesExactlyZero", spec := "fnStoreStringSeparatesExactlyZero", apart := false }
def FnStoreStringSeparatesExactlyZeroSaid : Prop := fnStoreStringSeparatesExactlyZeroRow.holds Try.pinned (OpenSpec.ofChange fnStoreStringSeparatesExactlyZeroSpec)

/-- ITS FALSE NEIGHBOUR: 'it returns false'. Refute it at one input. -/
def fnStoreStringSeparatesExactlyZeroWrong : ChangeSpec := { name := "fnStoreStringSeparatesExactlyZero", fn := fun _ => fun
  | [d1, d2] => { results := [.lit (.bool false)], args := [d1, d2] }
  | _ => none }
def FnStoreStringSeparatesExactlyZeroWrongFalsely : Prop := fnStoreStringSeparatesExactlyZeroRow.holds Try.pinned (OpenSpec.ofChange fnStoreStringSeparatesExactlyZeroWrong)

end Rows
end Go.Proofs.Qxb6600840a
