/-
  No cell of these rows narrows 'for every input' (looked for: loops, veiled, ifaces, maps, wideKeys, modest, calm, conditions, laid).
  DERIVED. THE GIVEN ROWS OF THIS SEAT. 2 by the template 'for every input the law returns true; each argument reads behind the call as it read before'; 0 by the template 'total and deterministic' (their statements: Qxb6628021aTotals.lean).
  GIVEN WITH THE SEED: the statements are not yours to turn. If you find one false, say at which input.
  Laid BY PROGRAM, IN A SANDBOX (cutbox-rows.mjs): the forced cells as the released guide's own fill.sh prints them over the translation 3539b95474e24ecb… (all of the seat's roots in one cut). By AI agents, Wed Nov 11 2026. No macro, syntax, notation, axiom, sorry.
-/
import Derived.Test.Qxb6628021aChecked
import GoSem.Claim
import GoSem.ClaimJoined
import GoSem.ClaimMapViews
import Derived.JoinedTies
import Derived.KernelRfl
namespace Go.Proofs.Qxb6628021a
/- THE CELL 'sum', in the pinned program and in every row, IS THE sha256 OF THE DUMP (.gsa) THAT Qxb6628021aProg.lean LOADS. Nothing in Lean hashes anything: it is a label: what it is worth is what the hold of that sum in a sandbox is worth. -/
noncomputable def Try.pinned : Pinned := { name := "qxb6628021a", sum := "3539b95474e24ecb79cae2ab6bfded9d38c940c18d83c0a0de95be7a7d9ac4d2", checked := Try.checked }
namespace Rows
def none {H : Type} : Left H := { results := [], args := [] }

/-- 'zzlaws_pkg_schema_b1.FnCommentEndMatchesNestedDescent': WHATEVER THE INPUT: true; the input reads as it did. -/
def fnCommentEndMatchesNestedDescentSpec : ChangeSpec := { name := "fnCommentEndMatchesNestedDescent", fn := fun _ => fun
  | [d1, d2] => { results := [.lit (.bool true)], args := [d1, d2] }
  | _ => none }
def fnCommentEndMatchesNestedDescentRow : OpenClaim := { program := "qxb6628021a", sum := "3539b95474e24ecb79cae2ab6bfded9d38c940c18d83c0a0de95be7a7d9ac4d2", func := "example.com/attest/attest/zzlaws_pkg_schema_b1.FnCommentEndMatchesNestedDescent", spec := "fnCommentEndMatchesNestedDescent", recurses := true, apart := false }
def FnCommentEndMatchesNestedDescentSaid : Prop := fnCommentEndMatchesNestedDescentRow.holds Try.pinned (OpenSpec.ofChange fnCommentEndMatchesNestedDescentSpec)

/-- ITS FALSE NEIGHBOUR: 'it returns false'. Refute it at one input. -/
def fnCommentEndMatchesNestedDescentWrong : ChangeSpec := { name := "fnCommentEndMatchesNestedDescent", fn := fun _ => fun
  | [d1, d2] => { results := [.lit (.bool false)], args := [d1, d2] }
  | _ => none }
def FnCommentEndMatchesNestedDescentWrongFalsely : Prop := fnCommentEndMatchesNestedDescentRow.holds Try.pinned (OpenSpec.ofChange fnCommentEndMatchesNestedDescentWrong)

/-- 'zzlaws_pkg_schema_b1.FnCommentEndCutBeforeEndReadsUnclosed': WHATEVER THE INPUT: true; the input reads as it did. -/
def fnCommentEndCutBeforeEndReadsUnclosedSpec : ChangeSpec := { name := "fnCommentEndCutBeforeEndReadsUnclosed", fn := fun _ => fun
  | [d1, d2, d3] => { results := [.lit (.bool true)], args := [d1, d2, d3] }
  | _ => none }
def fnCommentEndCutBeforeEndReadsUnclosedRow : OpenClaim := { program := "qxb6628021a", sum := "3539b95474e24ecb79cae2ab6bfded9d38c940c18d83c0a0de95be7a7d9ac4d2", func := "example.com/attest/attest/zzlaws_pkg_schema_b1.FnCommentEndCutBeforeEndReadsUnclosed", spec := "fnCommentEndCutBeforeEndReadsUnclosed", apart := false }
def FnCommentEndCutBeforeEndReadsUnclosedSaid : Prop := fnCommentEndCutBeforeEndReadsUnclosedRow.holds Try.pinned (OpenSpec.ofChange fnCommentEndCutBeforeEndReadsUnclosedSpec)

/-- ITS FALSE NEIGHBOUR: 'it returns false'. Refute it at one input. -/
def fnCommentEndCutBeforeEndReadsUnclosedWrong : ChangeSpec := { name := "fnCommentEndCutBeforeEndReadsUnclosed", fn := fun _ => fun
  | [d1, d2, d3] => { results := [.lit (.bool false)], args := [d1, d2, d3] }
  | _ => none }
def FnCommentEndCutBeforeEndReadsUnclosedWrongFalsely : Prop := fnCommentEndCutBeforeEndReadsUnclosedRow.holds Try.pinned (OpenSpec.ofChange fnCommentEndCutBeforeEndReadsUnclosedWrong)

end Rows
end Go.Proofs.Qxb6628021a
