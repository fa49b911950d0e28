/-
  No cell of these rows narrows 'for every input' (looked for: loops, veiled, ifaces, maps, wideKeys, modest, calm, conditions, laid).
  DERIVED. THE GIVEN ROWS OF THIS SEAT. 9 by the template 'for every input the law returns true; each argument reads behind the call as it read before'; 0 by the template 'total and deterministic' (their statements: Qxb6001148aTotals.lean).
  GIVEN WITH THE SEED: the statements are not yours to turn. If you find one false, say at which input.
  Laid BY PROGRAM, IN A SANDBOX (cutbox-rows.mjs): the forced cells as the released guide's own fill.sh prints them over the translation 884fbc4b160ebabc… (all of the seat's roots in one cut). By AI agents, Wed Nov 11 2026. No macro, syntax, notation, axiom, sorry.
-/
import Derived.Test.Qxb6001148aChecked
import GoSem.Claim
import GoSem.ClaimJoined
import GoSem.ClaimMapViews
import Derived.JoinedTies
import Derived.KernelRfl
namespace Go.Proofs.Qxb6001148a
/- THE CELL 'sum', in the pinned program and in every row, IS THE sha256 OF THE DUMP (.gsa) THAT Qxb6001148aProg.lean LOADS. Nothing in Lean hashes anything: it is a label: what it is worth is what the hold of that sum in a sandbox is worth. -/
noncomputable def Try.pinned : Pinned := { name := "qxb6001148a", sum := "884fbc4b160ebabc97413e5caed83e7ca4270628ef2124b2457ddc03fe905663", checked := Try.checked }
namespace Rows
def none {H : Type} : Left H := { results := [], args := [] }

/-- 'zzlaws_schema_b1.FnLaidOutReflexive': WHATEVER THE INPUT: true; the input reads as it did. -/
def fnLaidOutReflexiveSpec : ChangeSpec := { name := "fnLaidOutReflexive", fn := fun _ => fun
  | [d] => { results := [.lit (.bool true)], args := [d] }
  | _ => none }
def fnLaidOutReflexiveRow : OpenClaim := { program := "qxb6001148a", sum := "884fbc4b160ebabc97413e5caed83e7ca4270628ef2124b2457ddc03fe905663", func := "example.com/bellwether/bellwether/zzlaws_schema_b1.FnLaidOutReflexive", spec := "fnLaidOutReflexive", apart := false }
def FnLaidOutReflexiveSaid : Prop := fnLaidOutReflexiveRow.holds Try.pinned (OpenSpec.ofChange fnLaidOutReflexiveSpec)

/-- ITS FALSE NEIGHBOUR: 'it returns false'. Refute it at one input. -/
def fnLaidOutReflexiveWrong : ChangeSpec := { name := "fnLaidOutReflexive", fn := fun _ => fun
  | [d] => { results := [.lit (.bool false)], args := [d] }
  | _ => none }
def FnLaidOutReflexiveWrongFalsely : Prop := fnLaidOutReflexiveRow.holds Try.pinned (OpenSpec.ofChange fnLaidOutReflexiveWrong)

/-- 'zzlaws_schema_b1.FnLaidOutConcatenates': WHATEVER THE INPUT: true; the input reads as it did. -/
def fnLaidOutConcatenatesSpec : ChangeSpec := { name := "fnLaidOutConcatenates", fn := fun _ => fun
  | [d1, d2, d3, d4] => { results := [.lit (.bool true)], args := [d1, d2, d3, d4] }
  | _ => none }
def fnLaidOutConcatenatesRow : OpenClaim := { program := "qxb6001148a", sum := "884fbc4b160ebabc97413e5caed83e7ca4270628ef2124b2457ddc03fe905663", func := "example.com/bellwether/bellwether/zzlaws_schema_b1.FnLaidOutConcatenates", spec := "fnLaidOutConcatenates", apart := false }
def FnLaidOutConcatenatesSaid : Prop := fnLaidOutConcatenatesRow.holds Try.pinned (OpenSpec.ofChange fnLaidOutConcatenatesSpec)

/-- ITS FALSE NEIGHBOUR: 'it returns false'. Refute it at one input. -/
def fnLaidOutConcatenatesWrong : ChangeSpec := { name := "fnLaidOutConcatenates", fn := fun _ => fun
  | [d1, d2, d3, d4] => { results := [.lit (.bool false)], args := [d1, d2, d3, d4] }
  | _ => none }
def FnLaidOutConcatenatesWrongFalsely : Prop := fnLaidOutConcatenatesRow.holds Try.pinned (OpenSpec.ofChange fnLaidOutConcatenatesWrong)

/-- 'zzlaws_schema_b1.FnLaidOutWithoutNineIsEquality': WHATEVER THE INPUT: true; the input reads as it did. -/
def fnLaidOutWithoutNineIsEqualitySpec : ChangeSpec := { name := "fnLaidOutWithoutNineIsEquality", fn := fun _ => fun
  | [d1, d2] => { results := [.lit (.bool true)], args := [d1, d2] }
  | _ => none }
def fnLaidOutWithoutNineIsEqualityRow : OpenClaim := { program := "qxb6001148a", sum := "884fbc4b160ebabc97413e5caed83e7ca4270628ef2124b2457ddc03fe905663", func := "example.com/bellwether/bellwether/zzlaws_schema_b1.FnLaidOutWithoutNineIsEquality", spec := "fnLaidOutWithoutNineIsEquality", apart := false }
def FnLaidOutWithoutNineIsEqualitySaid : Prop := fnLaidOutWithoutNineIsEqualityRow.holds Try.pinned (OpenSpec.ofChange fnLaidOutWithoutNineIsEqualitySpec)

/-- ITS FALSE NEIGHBOUR: 'it returns false'. Refute it at one input. -/
def fnLaidOutWithoutNineIsEqualityWrong : ChangeSpec := { name := "fnLaidOutWithoutNineIsEquality", fn := fun _ => fun
  | [d1, d2] => { results := [.lit (.bool false)], args := [d1, d2] }
  | _ => none }
def FnLaidOutWithoutNineIsEqualityWrongFalsely : Prop := fnLaidOutWithoutNineIsEqualityRow.holds Try.pinned (OpenSpec.ofChange fnLaidOutWithoutNineIsEqualityWrong)

/-- 'zzlaws_schema_b1.FnDateTimeBuiltFromParts': WHATEVER THE INPUT: true; the input reads as it did. -/
def fnDateTimeBuiltFromPartsSpec : ChangeSpec := { name := "fnDateTimeBuiltFromParts", fn := fun _ => fun
  | [d1, d2, d3, d4, d5, d6] => { results := [.lit (.bool true)], args := [d1, d2, d3, d4, d5, d6] }
  | _ => none }
def fnDateTimeBuiltFromPartsRow : OpenClaim := { program := "qxb6001148a", sum := "884fbc4b160ebabc97413e5caed83e7ca4270628ef2124b2457ddc03fe905663", func := "example.com/bellwether/bellwether/zzlaws_schema_b1.FnDateTimeBuiltFromParts", spec := "fnDateTimeBuiltFromParts", apart := false }
def FnDateTimeBuiltFromPartsSaid : Prop := fnDateTimeBuiltFromPartsRow.holds Try.pinned (OpenSpec.ofChange fnDateTimeBuiltFromPartsSpec)

/-- ITS FALSE NEIGHBOUR: 'it returns false'. Refute it at one input. -/
def fnDateTimeBuiltFromPartsWrong : ChangeSpec := { name := "fnDateTimeBuiltFromParts", fn := fun _ => fun
  | [d1, d2, d3, d4, d5, d6] => { results := [.lit (.bool false)], args := [d1, d2, d3, d4, d5, d6] }
  | _ => none }
def FnDateTimeBuiltFromPartsWrongFalsely : Prop := fnDateTimeBuiltFromPartsRow.holds Try.pinned (OpenSpec.ofChange fnDateTimeBuiltFromPartsWrong)

/-- 'zzlaws_schema_b1.FnDateTimePrefixFree': WHATEVER THE INPUT: true; the input reads as it did. -/
def fnDateTimePrefixFreeSpec : ChangeSpec := { name := "fnDateTimePrefixFree", fn := fun _ => fun
  | [d1, d2] => { results := [.lit (.bool true)], args := [d1, d2] }
  | _ => none }
def fnDateTimePrefixFreeRow : OpenClaim := { program := "qxb6001148a", sum := "884fbc4b160ebabc97413e5caed83e7ca4270628ef2124b2457ddc03fe905663", func := "example.com/bellwether/bellwether/zzlaws_schema_b1.FnDateTimePrefixFree", spec := "fnDateTimePrefixFree", apart := false }
def FnDateTimePrefixFreeSaid : Prop := fnDateTimePrefixFreeRow.holds Try.pinned (OpenSpec.ofChange fnDateTimePrefixFreeSpec)

/-- ITS FALSE NEIGHBOUR: 'it returns false'. Refute it at one input. -/
def fnDateTimePrefixFreeWrong : ChangeSpec := { name := "fnDateTimePrefixFree", fn := fun _ => fun
  | [d1, d2] => { results := [.lit (.bool false)], args := [d1, d2] }
  | _ => none }
def FnDateTimePrefixFreeWrongFalsely : Prop := fnDateTimePrefixFreeRow.holds Try.pinned (OpenSpec.ofChange fnDateTimePrefixFreeWrong)

/-- 'zzlaws_schema_b1.FnDateTimeFractionChangesNothing': WHATEVER THE INPUT: true; the input reads as it did. -/
def fnDateTimeFractionChangesNothingSpec : ChangeSpec := { name := "fnDateTimeFractionChangesNothing", fn := fun _ => fun
  | [d1, d2] => { results := [.lit (.bool true)], args := [d1, d2] }
  | _ => none }
def fnDateTimeFractionChangesNothingRow : OpenClaim := { program := "qxb6001148a", sum := "884fbc4b160ebabc97413e5caed83e7ca4270628ef2124b2457ddc03fe905663", func := "example.com/bellwether/bellwether/zzlaws_schema_b1.FnDateTimeFractionChangesNothing", spec := "fnDateTimeFractionChangesNothing", apart := false }
def FnDateTimeFractionChangesNothingSaid : Prop := fnDateTimeFractionChangesNothingRow.holds Try.pinned (OpenSpec.ofChange fnDateTimeFractionChangesNothingSpec)

/-- ITS FALSE NEIGHBOUR: 'it returns false'. Refute it at one input. -/
def fnDateTimeFractionChangesNothingWrong : ChangeSpec := { name := "fnDateTimeFractionChangesNothing", fn := fun _ => fun
  | [d1, d2] => { results := [.lit (.bool false)], args := [d1, d2] }
  | _ => none }
def FnDateTimeFractionChangesNothingWrongFalsely : Prop := fnDateTimeFractionChangesNothingRow.holds Try.pinned (OpenSpec.ofChange fnDateTimeFractionChangesNothingWrong)

/-- 'zzlaws_schema_b1.FnURITextExactWithoutPercent': WHATEVER THE INPUT: true; the input reads as it did. -/
def fnURITextExactWithoutPercentSpec : ChangeSpec := { name := "fnURITextExactWithoutPercent", fn := fun _ => fun
  | [d1, d2] => { results := [.lit (.bool true)], args := [d1, d2] }
  | _ => none }
def fnURITextExactWithoutPercentRow : OpenClaim := { program := "qxb6001148a", sum := "884fbc4b160ebabc97413e5caed83e7ca4270628ef2124b2457ddc03fe905663", func := "example.com/bellwether/bellwether/zzlaws_schema_b1.FnURITextExactWithoutPercent", spec := "fnURITextExactWithoutPercent", inPlace := ["internal/bytealg.IndexByteString"], apart := false }
def FnURITextExactWithoutPercentSaid : Prop := fnURITextExactWithoutPercentRow.holds Try.pinned (OpenSpec.ofChange fnURITextExactWithoutPercentSpec)

/-- ITS FALSE NEIGHBOUR: 'it returns false'. Refute it at one input. -/
def fnURITextExactWithoutPercentWrong : ChangeSpec := { name := "fnURITextExactWithoutPercent", fn := fun _ => fun
  | [d1, d2] => { results := [.lit (.bool false)], args := [d1, d2] }
  | _ => none }
def FnURITextExactWithoutPercentWrongFalsely : Prop := fnURITextExactWithoutPercentRow.holds Try.pinned (OpenSpec.ofChange fnURITextExactWithoutPercentWrong)

/-- 'zzlaws_schema_b1.FnURITextTakesPercentEncoding': WHATEVER THE INPUT: true; the input reads as it did. -/
def fnURITextTakesPercentEncodingSpec : ChangeSpec := { name := "fnURITextTakesPercentEncoding", fn := fun _ => fun
  | [d1, d2] => { results := [.lit (.bool true)], args := [d1, d2] }
  | _ => none }
def fnURITextTakesPercentEncodingRow : OpenClaim := { program := "qxb6001148a", sum := "884fbc4b160ebabc97413e5caed83e7ca4270628ef2124b2457ddc03fe905663", func := "example.com/bellwether/bellwether/zzlaws_schema_b1.FnURITextTakesPercentEncoding", spec := "fnURITextTakesPercentEncoding", inPlace := ["internal/bytealg.IndexByteString"], apart := false }
def FnURITextTakesPercentEncodingSaid : Prop := fnURITextTakesPercentEncodingRow.holds Try.pinned (OpenSpec.ofChange fnURITextTakesPercentEncodingSpec)

/-- ITS FALSE NEIGHBOUR: 'it returns false'. Refute it at one input. -/
def fnURITextTakesPercentEncodingWrong : ChangeSpec := { name := "fnURITextTakesPercentEncoding", fn := fun _ => fun
  | [d1, d2] => { results := [.lit (.bool false)], args := [d1, d2] }
  | _ => none }
def FnURITextTakesPercentEncodingWrongFalsely : Prop := fnURITextTakesPercentEncodingRow.holds Try.pinned (OpenSpec.ofChange fnURITextTakesPercentEncodingWrong)

/-- 'zzlaws_schema_b1.FnURITextClosedUnderConcatenation': WHATEVER THE INPUT: true; the input reads as it did. -/
def fnURITextClosedUnderConcatenationSpec : ChangeSpec := { name := "fnURITextClosedUnderConcatenation", fn := fun _ => fun
  | [d1, d2, d3] => { results := [.lit (.bool true)], args := [d1, d2, d3] }
  | _ => none }
def fnURITextClosedUnderConcatenationRow : OpenClaim := { program := "qxb6001148a", sum := "884fbc4b160ebabc97413e5caed83e7ca4270628ef2124b2457ddc03fe905663", func := "example.com/bellwether/bellwether/zzlaws_schema_b1.FnURITextClosedUnderConcatenation", spec := "fnURITextClosedUnderConcatenation", inPlace := ["internal/bytealg.IndexByteString"], apart := false }
def FnURITextClosedUnderConcatenationSaid : Prop := fnURITextClosedUnderConcatenationRow.holds Try.pinned (OpenSpec.ofChange fnURITextClosedUnderConcatenationSpec)

/-- ITS FALSE NEIGHBOUR: 'it returns false'. Refute it at one input. -/
def fnURITextClosedUnderConcatenationWrong : ChangeSpec := { name := "fnURITextClosedUnderConcatenation", fn := fun _ => fun
  | [d1, d2, d3] => { results := [.lit (.bool false)], args := [d1, d2, d3] }
  | _ => none }
def FnURITextClosedUnderConcatenationWrongFalsely : Prop := fnURITextClosedUnderConcatenationRow.holds Try.pinned (OpenSpec.ofChange fnURITextClosedUnderConcatenationWrong)

end Rows
end Go.Proofs.Qxb6001148a
