/-
  No cell of these rows narrows 'for every input' (looked for: loops, veiled, ifaces, maps, wideKeys, modest, calm, conditions, laid).
  DERIVED. THE GIVEN ROWS OF THIS SEAT. 8 by the template 'for every input the law returns true; each argument reads behind the call as it read before'; 0 by the template 'total and deterministic' (their statements: Qxb6002668aTotals.lean).
  GIVEN WITH THE SEED: the statements are not yours to turn. If you find one false, say at which input.
  Laid BY PROGRAM, IN A SANDBOX (cutbox-rows.mjs): the forced cells as the released guide's own fill.sh prints them over the translation 56abddb56fb04386… (all of the seat's roots in one cut). By AI agents, Wed Nov 11 2026. No macro, syntax, notation, axiom, sorry.
-/
import Derived.Test.Qxb6002668aChecked
import GoSem.Claim
import GoSem.ClaimJoined
import GoSem.ClaimMapViews
import Derived.JoinedTies
import Derived.KernelRfl
namespace Go.Proofs.Qxb6002668a
/- THE CELL 'sum', in the pinned program and in every row, IS THE sha256 OF THE DUMP (.gsa) THAT Qxb6002668aProg.lean LOADS. Nothing in Lean hashes anything: it is a label: what it is worth is what the hold of that sum in a sandbox is worth. -/
noncomputable def Try.pinned : Pinned := { name := "qxb6002668a", sum := "56abddb56fb04386d44dcaed02aeac44646c7621e5777e7795502dab72bfb65f", checked := Try.checked }
namespace Rows
def none {H : Type} : Left H := { results := [], args := [] }

/-- 'zzlaws_rowbinary_b1.FnParseIPv4ReadsDottedDecimalBack': WHATEVER THE INPUT: true; the input reads as it did. -/
def fnParseIPv4ReadsDottedDecimalBackSpec : ChangeSpec := { name := "fnParseIPv4ReadsDottedDecimalBack", fn := fun _ => fun
  | [d1, d2] => { results := [.lit (.bool true)], args := [d1, d2] }
  | _ => none }
def fnParseIPv4ReadsDottedDecimalBackRow : OpenClaim := { program := "qxb6002668a", sum := "56abddb56fb04386d44dcaed02aeac44646c7621e5777e7795502dab72bfb65f", func := "example.com/flumeward/flumeward/zzlaws_rowbinary_b1.FnParseIPv4ReadsDottedDecimalBack", spec := "fnParseIPv4ReadsDottedDecimalBack", apart := false }
def FnParseIPv4ReadsDottedDecimalBackSaid : Prop := fnParseIPv4ReadsDottedDecimalBackRow.holds Try.pinned (OpenSpec.ofChange fnParseIPv4ReadsDottedDecimalBackSpec)

/-- ITS FALSE NEIGHBOUR: 'it returns false'. Refute it at one input. -/
def fnParseIPv4ReadsDottedDecimalBackWrong : ChangeSpec := { name := "fnParseIPv4ReadsDottedDecimalBack", fn := fun _ => fun
  | [d1, d2] => { results := [.lit (.bool false)], args := [d1, d2] }
  | _ => none }
def FnParseIPv4ReadsDottedDecimalBackWrongFalsely : Prop := fnParseIPv4ReadsDottedDecimalBackRow.holds Try.pinned (OpenSpec.ofChange fnParseIPv4ReadsDottedDecimalBackWrong)

/-- 'zzlaws_rowbinary_b1.FnParseIPv4AgreesWithFieldModel': WHATEVER THE INPUT: true; the input reads as it did. -/
def fnParseIPv4AgreesWithFieldModelSpec : ChangeSpec := { name := "fnParseIPv4AgreesWithFieldModel", fn := fun _ => fun
  | [d] => { results := [.lit (.bool true)], args := [d] }
  | _ => none }
def fnParseIPv4AgreesWithFieldModelRow : OpenClaim := { program := "qxb6002668a", sum := "56abddb56fb04386d44dcaed02aeac44646c7621e5777e7795502dab72bfb65f", func := "example.com/flumeward/flumeward/zzlaws_rowbinary_b1.FnParseIPv4AgreesWithFieldModel", spec := "fnParseIPv4AgreesWithFieldModel", apart := false }
def FnParseIPv4AgreesWithFieldModelSaid : Prop := fnParseIPv4AgreesWithFieldModelRow.holds Try.pinned (OpenSpec.ofChange fnParseIPv4AgreesWithFieldModelSpec)

/-- ITS FALSE NEIGHBOUR: 'it returns false'. Refute it at one input. -/
def fnParseIPv4AgreesWithFieldModelWrong : ChangeSpec := { name := "fnParseIPv4AgreesWithFieldModel", fn := fun _ => fun
  | [d] => { results := [.lit (.bool false)], args := [d] }
  | _ => none }
def FnParseIPv4AgreesWithFieldModelWrongFalsely : Prop := fnParseIPv4AgreesWithFieldModelRow.holds Try.pinned (OpenSpec.ofChange fnParseIPv4AgreesWithFieldModelWrong)

/-- 'zzlaws_rowbinary_b1.FnParseDecimalReadsWrittenNumberBack': WHATEVER THE INPUT: true; the input reads as it did. -/
def fnParseDecimalReadsWrittenNumberBackSpec : ChangeSpec := { name := "fnParseDecimalReadsWrittenNumberBack", fn := fun _ => fun
  | [d1, d2, d3, d4, d5, d6, d7, d8] => { results := [.lit (.bool true)], args := [d1, d2, d3, d4, d5, d6, d7, d8] }
  | _ => none }
def fnParseDecimalReadsWrittenNumberBackRow : OpenClaim := { program := "qxb6002668a", sum := "56abddb56fb04386d44dcaed02aeac44646c7621e5777e7795502dab72bfb65f", func := "example.com/flumeward/flumeward/zzlaws_rowbinary_b1.FnParseDecimalReadsWrittenNumberBack", spec := "fnParseDecimalReadsWrittenNumberBack", apart := false }
def FnParseDecimalReadsWrittenNumberBackSaid : Prop := fnParseDecimalReadsWrittenNumberBackRow.holds Try.pinned (OpenSpec.ofChange fnParseDecimalReadsWrittenNumberBackSpec)

/-- ITS FALSE NEIGHBOUR: 'it returns false'. Refute it at one input. -/
def fnParseDecimalReadsWrittenNumberBackWrong : ChangeSpec := { name := "fnParseDecimalReadsWrittenNumberBack", fn := fun _ => fun
  | [d1, d2, d3, d4, d5, d6, d7, d8] => { results := [.lit (.bool false)], args := [d1, d2, d3, d4, d5, d6, d7, d8] }
  | _ => none }
def FnParseDecimalReadsWrittenNumberBackWrongFalsely : Prop := fnParseDecimalReadsWrittenNumberBackRow.holds Try.pinned (OpenSpec.ofChange fnParseDecimalReadsWrittenNumberBackWrong)

/-- 'zzlaws_rowbinary_b1.FnParseDecimalRefusesTextWithoutDigit': WHATEVER THE INPUT: true; the input reads as it did. -/
def fnParseDecimalRefusesTextWithoutDigitSpec : ChangeSpec := { name := "fnParseDecimalRefusesTextWithoutDigit", fn := fun _ => fun
  | [d] => { results := [.lit (.bool true)], args := [d] }
  | _ => none }
def fnParseDecimalRefusesTextWithoutDigitRow : OpenClaim := { program := "qxb6002668a", sum := "56abddb56fb04386d44dcaed02aeac44646c7621e5777e7795502dab72bfb65f", func := "example.com/flumeward/flumeward/zzlaws_rowbinary_b1.FnParseDecimalRefusesTextWithoutDigit", spec := "fnParseDecimalRefusesTextWithoutDigit", apart := false }
def FnParseDecimalRefusesTextWithoutDigitSaid : Prop := fnParseDecimalRefusesTextWithoutDigitRow.holds Try.pinned (OpenSpec.ofChange fnParseDecimalRefusesTextWithoutDigitSpec)

/-- ITS FALSE NEIGHBOUR: 'it returns false'. Refute it at one input. -/
def fnParseDecimalRefusesTextWithoutDigitWrong : ChangeSpec := { name := "fnParseDecimalRefusesTextWithoutDigit", fn := fun _ => fun
  | [d] => { results := [.lit (.bool false)], args := [d] }
  | _ => none }
def FnParseDecimalRefusesTextWithoutDigitWrongFalsely : Prop := fnParseDecimalRefusesTextWithoutDigitRow.holds Try.pinned (OpenSpec.ofChange fnParseDecimalRefusesTextWithoutDigitWrong)

/-- 'zzlaws_rowbinary_b1.FnParseDecimalRefusesTrailingJunk': WHATEVER THE INPUT: true; the input reads as it did. -/
def fnParseDecimalRefusesTrailingJunkSpec : ChangeSpec := { name := "fnParseDecimalRefusesTrailingJunk", fn := fun _ => fun
  | [d1, d2] => { results := [.lit (.bool true)], args := [d1, d2] }
  | _ => none }
def fnParseDecimalRefusesTrailingJunkRow : OpenClaim := { program := "qxb6002668a", sum := "56abddb56fb04386d44dcaed02aeac44646c7621e5777e7795502dab72bfb65f", func := "example.com/flumeward/flumeward/zzlaws_rowbinary_b1.FnParseDecimalRefusesTrailingJunk", spec := "fnParseDecimalRefusesTrailingJunk", apart := false }
def FnParseDecimalRefusesTrailingJunkSaid : Prop := fnParseDecimalRefusesTrailingJunkRow.holds Try.pinned (OpenSpec.ofChange fnParseDecimalRefusesTrailingJunkSpec)

/-- ITS FALSE NEIGHBOUR: 'it returns false'. Refute it at one input. -/
def fnParseDecimalRefusesTrailingJunkWrong : ChangeSpec := { name := "fnParseDecimalRefusesTrailingJunk", fn := fun _ => fun
  | [d1, d2] => { results := [.lit (.bool false)], args := [d1, d2] }
  | _ => none }
def FnParseDecimalRefusesTrailingJunkWrongFalsely : Prop := fnParseDecimalRefusesTrailingJunkRow.holds Try.pinned (OpenSpec.ofChange fnParseDecimalRefusesTrailingJunkWrong)

/-- 'zzlaws_rowbinary_b1.FnValueEndSkipsEscapedString': WHATEVER THE INPUT: true; the input reads as it did. -/
def fnValueEndSkipsEscapedStringSpec : ChangeSpec := { name := "fnValueEndSkipsEscapedString", fn := fun _ => fun
  | [d1, d2, d3] => { results := [.lit (.bool true)], args := [d1, d2, d3] }
  | _ => none }
def fnValueEndSkipsEscapedStringRow : OpenClaim := { program := "qxb6002668a", sum := "56abddb56fb04386d44dcaed02aeac44646c7621e5777e7795502dab72bfb65f", func := "example.com/flumeward/flumeward/zzlaws_rowbinary_b1.FnValueEndSkipsEscapedString", spec := "fnValueEndSkipsEscapedString", apart := false }
def FnValueEndSkipsEscapedStringSaid : Prop := fnValueEndSkipsEscapedStringRow.holds Try.pinned (OpenSpec.ofChange fnValueEndSkipsEscapedStringSpec)

/-- ITS FALSE NEIGHBOUR: 'it returns false'. Refute it at one input. -/
def fnValueEndSkipsEscapedStringWrong : ChangeSpec := { name := "fnValueEndSkipsEscapedString", fn := fun _ => fun
  | [d1, d2, d3] => { results := [.lit (.bool false)], args := [d1, d2, d3] }
  | _ => none }
def FnValueEndSkipsEscapedStringWrongFalsely : Prop := fnValueEndSkipsEscapedStringRow.holds Try.pinned (OpenSpec.ofChange fnValueEndSkipsEscapedStringWrong)

/-- 'zzlaws_rowbinary_b1.FnValueEndSkipsNestedContainer': WHATEVER THE INPUT: true; the input reads as it did. -/
def fnValueEndSkipsNestedContainerSpec : ChangeSpec := { name := "fnValueEndSkipsNestedContainer", fn := fun _ => fun
  | [d1, d2, d3, d4, d5] => { results := [.lit (.bool true)], args := [d1, d2, d3, d4, d5] }
  | _ => none }
def fnValueEndSkipsNestedContainerRow : OpenClaim := { program := "qxb6002668a", sum := "56abddb56fb04386d44dcaed02aeac44646c7621e5777e7795502dab72bfb65f", func := "example.com/flumeward/flumeward/zzlaws_rowbinary_b1.FnValueEndSkipsNestedContainer", spec := "fnValueEndSkipsNestedContainer", apart := false }
def FnValueEndSkipsNestedContainerSaid : Prop := fnValueEndSkipsNestedContainerRow.holds Try.pinned (OpenSpec.ofChange fnValueEndSkipsNestedContainerSpec)

/-- ITS FALSE NEIGHBOUR: 'it returns false'. Refute it at one input. -/
def fnValueEndSkipsNestedContainerWrong : ChangeSpec := { name := "fnValueEndSkipsNestedContainer", fn := fun _ => fun
  | [d1, d2, d3, d4, d5] => { results := [.lit (.bool false)], args := [d1, d2, d3, d4, d5] }
  | _ => none }
def FnValueEndSkipsNestedContainerWrongFalsely : Prop := fnValueEndSkipsNestedContainerRow.holds Try.pinned (OpenSpec.ofChange fnValueEndSkipsNestedContainerWrong)

/-- 'zzlaws_rowbinary_b1.FnValueEndStopsAtScalarDelimiter': WHATEVER THE INPUT: true; the input reads as it did. -/
def fnValueEndStopsAtScalarDelimiterSpec : ChangeSpec := { name := "fnValueEndStopsAtScalarDelimiter", fn := fun _ => fun
  | [d1, d2, d3, d4] => { results := [.lit (.bool true)], args := [d1, d2, d3, d4] }
  | _ => none }
def fnValueEndStopsAtScalarDelimiterRow : OpenClaim := { program := "qxb6002668a", sum := "56abddb56fb04386d44dcaed02aeac44646c7621e5777e7795502dab72bfb65f", func := "example.com/flumeward/flumeward/zzlaws_rowbinary_b1.FnValueEndStopsAtScalarDelimiter", spec := "fnValueEndStopsAtScalarDelimiter", apart := false }
def FnValueEndStopsAtScalarDelimiterSaid : Prop := fnValueEndStopsAtScalarDelimiterRow.holds Try.pinned (OpenSpec.ofChange fnValueEndStopsAtScalarDelimiterSpec)

/-- ITS FALSE NEIGHBOUR: 'it returns false'. Refute it at one input. -/
def fnValueEndStopsAtScalarDelimiterWrong : ChangeSpec := { name := "fnValueEndStopsAtScalarDelimiter", fn := fun _ => fun
  | [d1, d2, d3, d4] => { results := [.lit (.bool false)], args := [d1, d2, d3, d4] }
  | _ => none }
def FnValueEndStopsAtScalarDelimiterWrongFalsely : Prop := fnValueEndStopsAtScalarDelimiterRow.holds Try.pinned (OpenSpec.ofChange fnValueEndStopsAtScalarDelimiterWrong)

end Rows
end Go.Proofs.Qxb6002668a
