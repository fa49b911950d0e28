/-
  No cell of these rows narrows 'for every input' (looked for: loops, veiled, ifaces, maps, wideKeys, modest, calm, conditions, laid).
  DERIVED. THE GIVEN ROWS OF THIS SEAT. 8 by the template 'for every input the law returns true; each argument reads behind the call as it read before'; 0 by the template 'total and deterministic' (their statements: Qxb6000904aTotals.lean).
  GIVEN WITH THE SEED: the statements are not yours to turn. If you find one false, say at which input.
  Laid BY PROGRAM, IN A SANDBOX (cutbox-rows.mjs): the forced cells as the released guide's own fill.sh prints them over the translation 18567f1f83995cc3… (all of the seat's roots in one cut). By AI agents, Wed Nov 11 2026. No macro, syntax, notation, axiom, sorry.
-/
import Derived.Test.Qxb6000904aChecked
import GoSem.Claim
import GoSem.ClaimJoined
import GoSem.ClaimMapViews
import Derived.JoinedTies
import Derived.KernelRfl
namespace Go.Proofs.Qxb6000904a
/- THE CELL 'sum', in the pinned program and in every row, IS THE sha256 OF THE DUMP (.gsa) THAT Qxb6000904aProg.lean LOADS. Nothing in Lean hashes anything: it is a label: what it is worth is what the hold of that sum in a sandbox is worth. -/
noncomputable def Try.pinned : Pinned := { name := "qxb6000904a", sum := "18567f1f83995cc325c436ed86a1c0739654607654586397213a990a773489c3", checked := Try.checked }
namespace Rows
def none {H : Type} : Left H := { results := [], args := [] }

/-- 'zzlaws_root_b1.FnReadElementRoundTrip': WHATEVER THE INPUT: true; the input reads as it did. -/
def fnReadElementRoundTripSpec : ChangeSpec := { name := "fnReadElementRoundTrip", fn := fun _ => fun
  | [d1, d2, d3] => { results := [.lit (.bool true)], args := [d1, d2, d3] }
  | _ => none }
def fnReadElementRoundTripRow : OpenClaim := { program := "qxb6000904a", sum := "18567f1f83995cc325c436ed86a1c0739654607654586397213a990a773489c3", func := "example.com/voidlist/voidlist/zzlaws_root_b1.FnReadElementRoundTrip", spec := "fnReadElementRoundTrip", apart := false }
def FnReadElementRoundTripSaid : Prop := fnReadElementRoundTripRow.holds Try.pinned (OpenSpec.ofChange fnReadElementRoundTripSpec)

/-- ITS FALSE NEIGHBOUR: 'it returns false'. Refute it at one input. -/
def fnReadElementRoundTripWrong : ChangeSpec := { name := "fnReadElementRoundTrip", fn := fun _ => fun
  | [d1, d2, d3] => { results := [.lit (.bool false)], args := [d1, d2, d3] }
  | _ => none }
def FnReadElementRoundTripWrongFalsely : Prop := fnReadElementRoundTripRow.holds Try.pinned (OpenSpec.ofChange fnReadElementRoundTripWrong)

/-- 'zzlaws_root_b1.FnReadElementCanonical': WHATEVER THE INPUT: true; the input reads as it did. -/
def fnReadElementCanonicalSpec : ChangeSpec := { name := "fnReadElementCanonical", fn := fun _ => fun
  | [d] => { results := [.lit (.bool true)], args := [d] }
  | _ => none }
def fnReadElementCanonicalRow : OpenClaim := { program := "qxb6000904a", sum := "18567f1f83995cc325c436ed86a1c0739654607654586397213a990a773489c3", func := "example.com/voidlist/voidlist/zzlaws_root_b1.FnReadElementCanonical", spec := "fnReadElementCanonical", apart := false }
def FnReadElementCanonicalSaid : Prop := fnReadElementCanonicalRow.holds Try.pinned (OpenSpec.ofChange fnReadElementCanonicalSpec)

/-- ITS FALSE NEIGHBOUR: 'it returns false'. Refute it at one input. -/
def fnReadElementCanonicalWrong : ChangeSpec := { name := "fnReadElementCanonical", fn := fun _ => fun
  | [d] => { results := [.lit (.bool false)], args := [d] }
  | _ => none }
def FnReadElementCanonicalWrongFalsely : Prop := fnReadElementCanonicalRow.holds Try.pinned (OpenSpec.ofChange fnReadElementCanonicalWrong)

/-- 'zzlaws_root_b1.FnReadElementPrefixFreeAndExtendable': WHATEVER THE INPUT: true; the input reads as it did. -/
def fnReadElementPrefixFreeAndExtendableSpec : ChangeSpec := { name := "fnReadElementPrefixFreeAndExtendable", fn := fun _ => fun
  | [d1, d2] => { results := [.lit (.bool true)], args := [d1, d2] }
  | _ => none }
def fnReadElementPrefixFreeAndExtendableRow : OpenClaim := { program := "qxb6000904a", sum := "18567f1f83995cc325c436ed86a1c0739654607654586397213a990a773489c3", func := "example.com/voidlist/voidlist/zzlaws_root_b1.FnReadElementPrefixFreeAndExtendable", spec := "fnReadElementPrefixFreeAndExtendable", apart := false }
def FnReadElementPrefixFreeAndExtendableSaid : Prop := fnReadElementPrefixFreeAndExtendableRow.holds Try.pinned (OpenSpec.ofChange fnReadElementPrefixFreeAndExtendableSpec)

/-- ITS FALSE NEIGHBOUR: 'it returns false'. Refute it at one input. -/
def fnReadElementPrefixFreeAndExtendableWrong : ChangeSpec := { name := "fnReadElementPrefixFreeAndExtendable", fn := fun _ => fun
  | [d1, d2] => { results := [.lit (.bool false)], args := [d1, d2] }
  | _ => none }
def FnReadElementPrefixFreeAndExtendableWrongFalsely : Prop := fnReadElementPrefixFreeAndExtendableRow.holds Try.pinned (OpenSpec.ofChange fnReadElementPrefixFreeAndExtendableWrong)

/-- 'zzlaws_root_b1.FnLinesBeginningMatchesLineModel': WHATEVER THE INPUT: true; the input reads as it did. -/
def fnLinesBeginningMatchesLineModelSpec : ChangeSpec := { name := "fnLinesBeginningMatchesLineModel", fn := fun _ => fun
  | [d1, d2] => { results := [.lit (.bool true)], args := [d1, d2] }
  | _ => none }
def fnLinesBeginningMatchesLineModelRow : OpenClaim := { program := "qxb6000904a", sum := "18567f1f83995cc325c436ed86a1c0739654607654586397213a990a773489c3", func := "example.com/voidlist/voidlist/zzlaws_root_b1.FnLinesBeginningMatchesLineModel", spec := "fnLinesBeginningMatchesLineModel", inPlace := ["internal/bytealg.IndexByte", "internal/bytealg.Index"], named := ["internal/bytealg.MaxLen"], apart := false }
def FnLinesBeginningMatchesLineModelSaid : Prop := fnLinesBeginningMatchesLineModelRow.holds Try.pinned (OpenSpec.ofChange fnLinesBeginningMatchesLineModelSpec)

/-- ITS FALSE NEIGHBOUR: 'it returns false'. Refute it at one input. -/
def fnLinesBeginningMatchesLineModelWrong : ChangeSpec := { name := "fnLinesBeginningMatchesLineModel", fn := fun _ => fun
  | [d1, d2] => { results := [.lit (.bool false)], args := [d1, d2] }
  | _ => none }
def FnLinesBeginningMatchesLineModelWrongFalsely : Prop := fnLinesBeginningMatchesLineModelRow.holds Try.pinned (OpenSpec.ofChange fnLinesBeginningMatchesLineModelWrong)

/-- 'zzlaws_root_b1.FnLinesBeginningConcat': WHATEVER THE INPUT: true; the input reads as it did. -/
def fnLinesBeginningConcatSpec : ChangeSpec := { name := "fnLinesBeginningConcat", fn := fun _ => fun
  | [d1, d2, d3] => { results := [.lit (.bool true)], args := [d1, d2, d3] }
  | _ => none }
def fnLinesBeginningConcatRow : OpenClaim := { program := "qxb6000904a", sum := "18567f1f83995cc325c436ed86a1c0739654607654586397213a990a773489c3", func := "example.com/voidlist/voidlist/zzlaws_root_b1.FnLinesBeginningConcat", spec := "fnLinesBeginningConcat", inPlace := ["internal/bytealg.IndexByte", "internal/bytealg.Index"], named := ["internal/bytealg.MaxLen"], apart := false }
def FnLinesBeginningConcatSaid : Prop := fnLinesBeginningConcatRow.holds Try.pinned (OpenSpec.ofChange fnLinesBeginningConcatSpec)

/-- ITS FALSE NEIGHBOUR: 'it returns false'. Refute it at one input. -/
def fnLinesBeginningConcatWrong : ChangeSpec := { name := "fnLinesBeginningConcat", fn := fun _ => fun
  | [d1, d2, d3] => { results := [.lit (.bool false)], args := [d1, d2, d3] }
  | _ => none }
def FnLinesBeginningConcatWrongFalsely : Prop := fnLinesBeginningConcatRow.holds Try.pinned (OpenSpec.ofChange fnLinesBeginningConcatWrong)

/-- 'zzlaws_root_b1.FnLinesBeginningLongerPrefixFewer': WHATEVER THE INPUT: true; the input reads as it did. -/
def fnLinesBeginningLongerPrefixFewerSpec : ChangeSpec := { name := "fnLinesBeginningLongerPrefixFewer", fn := fun _ => fun
  | [d1, d2, d3] => { results := [.lit (.bool true)], args := [d1, d2, d3] }
  | _ => none }
def fnLinesBeginningLongerPrefixFewerRow : OpenClaim := { program := "qxb6000904a", sum := "18567f1f83995cc325c436ed86a1c0739654607654586397213a990a773489c3", func := "example.com/voidlist/voidlist/zzlaws_root_b1.FnLinesBeginningLongerPrefixFewer", spec := "fnLinesBeginningLongerPrefixFewer", inPlace := ["internal/bytealg.IndexByte", "internal/bytealg.Index"], named := ["internal/bytealg.MaxLen"], apart := false }
def FnLinesBeginningLongerPrefixFewerSaid : Prop := fnLinesBeginningLongerPrefixFewerRow.holds Try.pinned (OpenSpec.ofChange fnLinesBeginningLongerPrefixFewerSpec)

/-- ITS FALSE NEIGHBOUR: 'it returns false'. Refute it at one input. -/
def fnLinesBeginningLongerPrefixFewerWrong : ChangeSpec := { name := "fnLinesBeginningLongerPrefixFewer", fn := fun _ => fun
  | [d1, d2, d3] => { results := [.lit (.bool false)], args := [d1, d2, d3] }
  | _ => none }
def FnLinesBeginningLongerPrefixFewerWrongFalsely : Prop := fnLinesBeginningLongerPrefixFewerRow.holds Try.pinned (OpenSpec.ofChange fnLinesBeginningLongerPrefixFewerWrong)

/-- 'zzlaws_root_b1.FnFoldURIIdempotent': WHATEVER THE INPUT: true; the input reads as it did. -/
def fnFoldURIIdempotentSpec : ChangeSpec := { name := "fnFoldURIIdempotent", fn := fun _ => fun
  | [d] => { results := [.lit (.bool true)], args := [d] }
  | _ => none }
def fnFoldURIIdempotentRow : OpenClaim := { program := "qxb6000904a", sum := "18567f1f83995cc325c436ed86a1c0739654607654586397213a990a773489c3", func := "example.com/voidlist/voidlist/zzlaws_root_b1.FnFoldURIIdempotent", spec := "fnFoldURIIdempotent", inPlace := ["internal/bytealg.IndexByteString", "internal/bytealg.IndexString"], named := ["internal/bytealg.MaxLen"], apart := false }
def FnFoldURIIdempotentSaid : Prop := fnFoldURIIdempotentRow.holds Try.pinned (OpenSpec.ofChange fnFoldURIIdempotentSpec)

/-- ITS FALSE NEIGHBOUR: 'it returns false'. Refute it at one input. -/
def fnFoldURIIdempotentWrong : ChangeSpec := { name := "fnFoldURIIdempotent", fn := fun _ => fun
  | [d] => { results := [.lit (.bool false)], args := [d] }
  | _ => none }
def FnFoldURIIdempotentWrongFalsely : Prop := fnFoldURIIdempotentRow.holds Try.pinned (OpenSpec.ofChange fnFoldURIIdempotentWrong)

/-- 'zzlaws_root_b1.FnFoldURIOnlyLowersCapitals': WHATEVER THE INPUT: true; the input reads as it did. -/
def fnFoldURIOnlyLowersCapitalsSpec : ChangeSpec := { name := "fnFoldURIOnlyLowersCapitals", fn := fun _ => fun
  | [d] => { results := [.lit (.bool true)], args := [d] }
  | _ => none }
def fnFoldURIOnlyLowersCapitalsRow : OpenClaim := { program := "qxb6000904a", sum := "18567f1f83995cc325c436ed86a1c0739654607654586397213a990a773489c3", func := "example.com/voidlist/voidlist/zzlaws_root_b1.FnFoldURIOnlyLowersCapitals", spec := "fnFoldURIOnlyLowersCapitals", inPlace := ["internal/bytealg.IndexByteString", "internal/bytealg.IndexString"], named := ["internal/bytealg.MaxLen"], apart := false }
def FnFoldURIOnlyLowersCapitalsSaid : Prop := fnFoldURIOnlyLowersCapitalsRow.holds Try.pinned (OpenSpec.ofChange fnFoldURIOnlyLowersCapitalsSpec)

/-- ITS FALSE NEIGHBOUR: 'it returns false'. Refute it at one input. -/
def fnFoldURIOnlyLowersCapitalsWrong : ChangeSpec := { name := "fnFoldURIOnlyLowersCapitals", fn := fun _ => fun
  | [d] => { results := [.lit (.bool false)], args := [d] }
  | _ => none }
def FnFoldURIOnlyLowersCapitalsWrongFalsely : Prop := fnFoldURIOnlyLowersCapitalsRow.holds Try.pinned (OpenSpec.ofChange fnFoldURIOnlyLowersCapitalsWrong)

end Rows
end Go.Proofs.Qxb6000904a
