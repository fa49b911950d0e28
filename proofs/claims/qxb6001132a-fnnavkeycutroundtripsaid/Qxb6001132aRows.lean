/-
  No cell of these rows narrows 'for every input' (looked for: loops, veiled, ifaces, maps, wideKeys, modest, calm, conditions, laid).
  DERIVED. THE GIVEN ROWS OF THIS SEAT. 4 by the template 'for every input the law returns true; each argument reads behind the call as it read before'; 0 by the template 'total and deterministic' (their statements: Qxb6001132aTotals.lean).
  GIVEN WITH THE SEED: the statements are not yours to turn. If you find one false, say at which input.
  Laid BY PROGRAM, IN A SANDBOX (cutbox-rows.mjs): the forced cells as the released guide's own fill.sh prints them over the translation 12fcdab9ae5b68fc… (all of the seat's roots in one cut). By AI agents, Wed Nov 11 2026. No macro, syntax, notation, axiom, sorry.
-/
import Derived.Test.Qxb6001132aChecked
import GoSem.Claim
import GoSem.ClaimJoined
import GoSem.ClaimMapViews
import Derived.JoinedTies
import Derived.KernelRfl
namespace Go.Proofs.Qxb6001132a
/- THE CELL 'sum', in the pinned program and in every row, IS THE sha256 OF THE DUMP (.gsa) THAT Qxb6001132aProg.lean LOADS. Nothing in Lean hashes anything: it is a label: what it is worth is what the hold of that sum in a sandbox is worth. -/
noncomputable def Try.pinned : Pinned := { name := "qxb6001132a", sum := "12fcdab9ae5b68fc3fe67881171a56662f65200cf9e557debe1bd9e40a82863e", checked := Try.checked }
namespace Rows
def none {H : Type} : Left H := { results := [], args := [] }

/-- 'zzlaws_fund_b1.FnNavKeyCutRoundTrip': WHATEVER THE INPUT: true; the input reads as it did. -/
def fnNavKeyCutRoundTripSpec : ChangeSpec := { name := "fnNavKeyCutRoundTrip", fn := fun _ => fun
  | [d1, d2] => { results := [.lit (.bool true)], args := [d1, d2] }
  | _ => none }
def fnNavKeyCutRoundTripRow : OpenClaim := { program := "qxb6001132a", sum := "12fcdab9ae5b68fc3fe67881171a56662f65200cf9e557debe1bd9e40a82863e", func := "example.com/ledgerward/ledgerward/zzlaws_fund_b1.FnNavKeyCutRoundTrip", spec := "fnNavKeyCutRoundTrip", inPlace := ["internal/bytealg.IndexByteString", "internal/bytealg.IndexString"], named := ["internal/bytealg.MaxLen"], apart := false }
def FnNavKeyCutRoundTripSaid : Prop := fnNavKeyCutRoundTripRow.holds Try.pinned (OpenSpec.ofChange fnNavKeyCutRoundTripSpec)

/-- ITS FALSE NEIGHBOUR: 'it returns false'. Refute it at one input. -/
def fnNavKeyCutRoundTripWrong : ChangeSpec := { name := "fnNavKeyCutRoundTrip", fn := fun _ => fun
  | [d1, d2] => { results := [.lit (.bool false)], args := [d1, d2] }
  | _ => none }
def FnNavKeyCutRoundTripWrongFalsely : Prop := fnNavKeyCutRoundTripRow.holds Try.pinned (OpenSpec.ofChange fnNavKeyCutRoundTripWrong)

/-- 'zzlaws_fund_b1.FnCutClassKeyRebuilds': WHATEVER THE INPUT: true; the input reads as it did. -/
def fnCutClassKeyRebuildsSpec : ChangeSpec := { name := "fnCutClassKeyRebuilds", fn := fun _ => fun
  | [d] => { results := [.lit (.bool true)], args := [d] }
  | _ => none }
def fnCutClassKeyRebuildsRow : OpenClaim := { program := "qxb6001132a", sum := "12fcdab9ae5b68fc3fe67881171a56662f65200cf9e557debe1bd9e40a82863e", func := "example.com/ledgerward/ledgerward/zzlaws_fund_b1.FnCutClassKeyRebuilds", spec := "fnCutClassKeyRebuilds", inPlace := ["internal/bytealg.IndexByteString", "internal/bytealg.IndexString"], named := ["internal/bytealg.MaxLen"], apart := false }
def FnCutClassKeyRebuildsSaid : Prop := fnCutClassKeyRebuildsRow.holds Try.pinned (OpenSpec.ofChange fnCutClassKeyRebuildsSpec)

/-- ITS FALSE NEIGHBOUR: 'it returns false'. Refute it at one input. -/
def fnCutClassKeyRebuildsWrong : ChangeSpec := { name := "fnCutClassKeyRebuilds", fn := fun _ => fun
  | [d] => { results := [.lit (.bool false)], args := [d] }
  | _ => none }
def FnCutClassKeyRebuildsWrongFalsely : Prop := fnCutClassKeyRebuildsRow.holds Try.pinned (OpenSpec.ofChange fnCutClassKeyRebuildsWrong)

/-- 'zzlaws_fund_b1.FnAllDigitsByteModel': WHATEVER THE INPUT: true; the input reads as it did. -/
def fnAllDigitsByteModelSpec : ChangeSpec := { name := "fnAllDigitsByteModel", fn := fun _ => fun
  | [d] => { results := [.lit (.bool true)], args := [d] }
  | _ => none }
def fnAllDigitsByteModelRow : OpenClaim := { program := "qxb6001132a", sum := "12fcdab9ae5b68fc3fe67881171a56662f65200cf9e557debe1bd9e40a82863e", func := "example.com/ledgerward/ledgerward/zzlaws_fund_b1.FnAllDigitsByteModel", spec := "fnAllDigitsByteModel", apart := false }
def FnAllDigitsByteModelSaid : Prop := fnAllDigitsByteModelRow.holds Try.pinned (OpenSpec.ofChange fnAllDigitsByteModelSpec)

/-- ITS FALSE NEIGHBOUR: 'it returns false'. Refute it at one input. -/
def fnAllDigitsByteModelWrong : ChangeSpec := { name := "fnAllDigitsByteModel", fn := fun _ => fun
  | [d] => { results := [.lit (.bool false)], args := [d] }
  | _ => none }
def FnAllDigitsByteModelWrongFalsely : Prop := fnAllDigitsByteModelRow.holds Try.pinned (OpenSpec.ofChange fnAllDigitsByteModelWrong)

/-- 'zzlaws_fund_b1.FnAllDigitsConcat': WHATEVER THE INPUT: true; the input reads as it did. -/
def fnAllDigitsConcatSpec : ChangeSpec := { name := "fnAllDigitsConcat", fn := fun _ => fun
  | [d1, d2] => { results := [.lit (.bool true)], args := [d1, d2] }
  | _ => none }
def fnAllDigitsConcatRow : OpenClaim := { program := "qxb6001132a", sum := "12fcdab9ae5b68fc3fe67881171a56662f65200cf9e557debe1bd9e40a82863e", func := "example.com/ledgerward/ledgerward/zzlaws_fund_b1.FnAllDigitsConcat", spec := "fnAllDigitsConcat", apart := false }
def FnAllDigitsConcatSaid : Prop := fnAllDigitsConcatRow.holds Try.pinned (OpenSpec.ofChange fnAllDigitsConcatSpec)

/-- ITS FALSE NEIGHBOUR: 'it returns false'. Refute it at one input. -/
def fnAllDigitsConcatWrong : ChangeSpec := { name := "fnAllDigitsConcat", fn := fun _ => fun
  | [d1, d2] => { results := [.lit (.bool false)], args := [d1, d2] }
  | _ => none }
def FnAllDigitsConcatWrongFalsely : Prop := fnAllDigitsConcatRow.holds Try.pinned (OpenSpec.ofChange fnAllDigitsConcatWrong)

end Rows
end Go.Proofs.Qxb6001132a
