/-
  No cell of these rows narrows 'for every input' (looked for: loops, veiled, ifaces, maps, wideKeys, modest, calm, conditions, laid).
  DERIVED. THE GIVEN ROWS OF THIS SEAT. 2 by the template 'for every input the law returns true; each argument reads behind the call as it read before'; 0 by the template 'total and deterministic' (their statements: Qxb6628598aTotals.lean).
  GIVEN WITH THE SEED: the statements are not yours to turn. If you find one false, say at which input.
  Laid BY PROGRAM, IN A SANDBOX (cutbox-rows.mjs): the forced cells as the released guide's own fill.sh prints them over the translation 2e948381161210e5… (all of the seat's roots in one cut). By AI agents, Wed Nov 11 2026. No macro, syntax, notation, axiom, sorry.
-/
import Derived.Test.Qxb6628598aChecked
import GoSem.Claim
import GoSem.ClaimJoined
import GoSem.ClaimMapViews
import Derived.JoinedTies
import Derived.KernelRfl
namespace Go.Proofs.Qxb6628598a
/- THE CELL 'sum', in the pinned program and in every row, IS THE sha256 OF THE DUMP (.gsa) THAT Qxb6628598aProg.lean LOADS. Nothing in Lean hashes anything: it is a label: what it is worth is what the hold of that sum in a sandbox is worth. -/
noncomputable def Try.pinned : Pinned := { name := "qxb6628598a", sum := "2e948381161210e5997f3122e9add8d14557cc6e202d6e9ac78f2e2afe753598", checked := Try.checked }
namespace Rows
def none {H : Type} : Left H := { results := [], args := [] }

/-- 'zzlaws_internal_gfm_b1.FnSameAsSelfAndOneChange': WHATEVER THE INPUT: true; the input reads as it did. -/
def fnSameAsSelfAndOneChangeSpec : ChangeSpec := { name := "fnSameAsSelfAndOneChange", fn := fun _ => fun
  | [d1, d2, d3] => { results := [.lit (.bool true)], args := [d1, d2, d3] }
  | _ => none }
def fnSameAsSelfAndOneChangeRow : OpenClaim := { program := "qxb6628598a", sum := "2e948381161210e5997f3122e9add8d14557cc6e202d6e9ac78f2e2afe753598", func := "example.com/weftline/weftline/zzlaws_internal_gfm_b1.FnSameAsSelfAndOneChange", spec := "fnSameAsSelfAndOneChange", apart := false }
def FnSameAsSelfAndOneChangeSaid : Prop := fnSameAsSelfAndOneChangeRow.holds Try.pinned (OpenSpec.ofChange fnSameAsSelfAndOneChangeSpec)

/-- ITS FALSE NEIGHBOUR: 'it returns false'. Refute it at one input. -/
def fnSameAsSelfAndOneChangeWrong : ChangeSpec := { name := "fnSameAsSelfAndOneChange", fn := fun _ => fun
  | [d1, d2, d3] => { results := [.lit (.bool false)], args := [d1, d2, d3] }
  | _ => none }
def FnSameAsSelfAndOneChangeWrongFalsely : Prop := fnSameAsSelfAndOneChangeRow.holds Try.pinned (OpenSpec.ofChange fnSameAsSelfAndOneChangeWrong)

/-- 'zzlaws_internal_gfm_b1.FnSameAsCutAnywhere': WHATEVER THE INPUT: true; the input reads as it did. -/
def fnSameAsCutAnywhereSpec : ChangeSpec := { name := "fnSameAsCutAnywhere", fn := fun _ => fun
  | [d1, d2, d3] => { results := [.lit (.bool true)], args := [d1, d2, d3] }
  | _ => none }
def fnSameAsCutAnywhereRow : OpenClaim := { program := "qxb6628598a", sum := "2e948381161210e5997f3122e9add8d14557cc6e202d6e9ac78f2e2afe753598", func := "example.com/weftline/weftline/zzlaws_internal_gfm_b1.FnSameAsCutAnywhere", spec := "fnSameAsCutAnywhere", apart := false }
def FnSameAsCutAnywhereSaid : Prop := fnSameAsCutAnywhereRow.holds Try.pinned (OpenSpec.ofChange fnSameAsCutAnywhereSpec)

/-- ITS FALSE NEIGHBOUR: 'it returns false'. Refute it at one input. -/
def fnSameAsCutAnywhereWrong : ChangeSpec := { name := "fnSameAsCutAnywhere", fn := fun _ => fun
  | [d1, d2, d3] => { results := [.lit (.bool false)], args := [d1, d2, d3] }
  | _ => none }
def FnSameAsCutAnywhereWrongFalsely : Prop := fnSameAsCutAnywhereRow.holds Try.pinned (OpenSpec.ofChange fnSameAsCutAnywhereWrong)

end Rows
end Go.Proofs.Qxb6628598a
