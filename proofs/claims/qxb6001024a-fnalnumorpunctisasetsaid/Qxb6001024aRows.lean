/-
  No cell of these rows narrows 'for every input' (looked for: loops, veiled, ifaces, maps, wideKeys, modest, calm, conditions, laid).
  DERIVED. THE GIVEN ROWS OF THIS SEAT. 2 by the template 'for every input the law returns true; each argument reads behind the call as it read before'; 0 by the template 'total and deterministic' (their statements: Qxb6001024aTotals.lean).
  GIVEN WITH THE SEED: the statements are not yours to turn. If you find one false, say at which input.
  Laid BY PROGRAM, IN A SANDBOX (cutbox-rows.mjs): the forced cells as the released guide's own fill.sh prints them over the translation 2b167d4ac8258b46… (all of the seat's roots in one cut). By AI agents, Wed Nov 11 2026. No macro, syntax, notation, axiom, sorry.
-/
import Derived.Test.Qxb6001024aChecked
import GoSem.Claim
import GoSem.ClaimJoined
import GoSem.ClaimMapViews
import Derived.JoinedTies
import Derived.KernelRfl
namespace Go.Proofs.Qxb6001024a
/- THE CELL 'sum', in the pinned program and in every row, IS THE sha256 OF THE DUMP (.gsa) THAT Qxb6001024aProg.lean LOADS. Nothing in Lean hashes anything: it is a label: what it is worth is what the hold of that sum in a sandbox is worth. -/
noncomputable def Try.pinned : Pinned := { name := "qxb6001024a", sum := "2b167d4ac8258b461abf4d6e4de7c8db7b09999dc7720ca03385ac087a31f2c8", checked := Try.checked }
namespace Rows
def none {H : Type} : Left H := { results := [], args := [] }

/-- 'zzlaws_internal_broker_b1.FnAlnumOrSplitsOverConcat': WHATEVER THE INPUT: true; the input reads as it did. -/
def fnAlnumOrSplitsOverConcatSpec : ChangeSpec := { name := "fnAlnumOrSplitsOverConcat", fn := fun _ => fun
  | [d1, d2, d3] => { results := [.lit (.bool true)], args := [d1, d2, d3] }
  | _ => none }
def fnAlnumOrSplitsOverConcatRow : OpenClaim := { program := "qxb6001024a", sum := "2b167d4ac8258b461abf4d6e4de7c8db7b09999dc7720ca03385ac087a31f2c8", func := "example.com/commit-then-publish/commit-then-publish/zzlaws_internal_broker_b1.FnAlnumOrSplitsOverConcat", spec := "fnAlnumOrSplitsOverConcat", inPlace := ["internal/bytealg.IndexByteString"], apart := false }
def FnAlnumOrSplitsOverConcatSaid : Prop := fnAlnumOrSplitsOverConcatRow.holds Try.pinned (OpenSpec.ofChange fnAlnumOrSplitsOverConcatSpec)

/-- ITS FALSE NEIGHBOUR: 'it returns false'. Refute it at one input. -/
def fnAlnumOrSplitsOverConcatWrong : ChangeSpec := { name := "fnAlnumOrSplitsOverConcat", fn := fun _ => fun
  | [d1, d2, d3] => { results := [.lit (.bool false)], args := [d1, d2, d3] }
  | _ => none }
def FnAlnumOrSplitsOverConcatWrongFalsely : Prop := fnAlnumOrSplitsOverConcatRow.holds Try.pinned (OpenSpec.ofChange fnAlnumOrSplitsOverConcatWrong)

/-- 'zzlaws_internal_broker_b1.FnAlnumOrPunctIsASet': WHATEVER THE INPUT: true; the input reads as it did. -/
def fnAlnumOrPunctIsASetSpec : ChangeSpec := { name := "fnAlnumOrPunctIsASet", fn := fun _ => fun
  | [d1, d2, d3] => { results := [.lit (.bool true)], args := [d1, d2, d3] }
  | _ => none }
def fnAlnumOrPunctIsASetRow : OpenClaim := { program := "qxb6001024a", sum := "2b167d4ac8258b461abf4d6e4de7c8db7b09999dc7720ca03385ac087a31f2c8", func := "example.com/commit-then-publish/commit-then-publish/zzlaws_internal_broker_b1.FnAlnumOrPunctIsASet", spec := "fnAlnumOrPunctIsASet", inPlace := ["internal/bytealg.IndexByteString"], apart := false }
def FnAlnumOrPunctIsASetSaid : Prop := fnAlnumOrPunctIsASetRow.holds Try.pinned (OpenSpec.ofChange fnAlnumOrPunctIsASetSpec)

/-- ITS FALSE NEIGHBOUR: 'it returns false'. Refute it at one input. -/
def fnAlnumOrPunctIsASetWrong : ChangeSpec := { name := "fnAlnumOrPunctIsASet", fn := fun _ => fun
  | [d1, d2, d3] => { results := [.lit (.bool false)], args := [d1, d2, d3] }
  | _ => none }
def FnAlnumOrPunctIsASetWrongFalsely : Prop := fnAlnumOrPunctIsASetRow.holds Try.pinned (OpenSpec.ofChange fnAlnumOrPunctIsASetWrong)

end Rows
end Go.Proofs.Qxb6001024a
