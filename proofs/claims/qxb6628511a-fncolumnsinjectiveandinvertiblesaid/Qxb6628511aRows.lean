/-
  No cell of these rows narrows 'for every input' (looked for: loops, veiled, ifaces, maps, wideKeys, modest, calm, conditions, laid).
  DERIVED. THE GIVEN ROWS OF THIS SEAT. 2 by the template 'for every input the law returns true; each argument reads behind the call as it read before'; 0 by the template 'total and deterministic' (their statements: Qxb6628511aTotals.lean).
  GIVEN WITH THE SEED: the statements are not yours to turn. If you find one false, say at which input.
  Laid BY PROGRAM, IN A SANDBOX (cutbox-rows.mjs): the forced cells as the released guide's own fill.sh prints them over the translation 3f949acbd5a53b0e… (all of the seat's roots in one cut). By AI agents, Wed Nov 11 2026. No macro, syntax, notation, axiom, sorry.
-/
import Derived.Test.Qxb6628511aChecked
import GoSem.Claim
import GoSem.ClaimJoined
import GoSem.ClaimMapViews
import Derived.JoinedTies
import Derived.KernelRfl
namespace Go.Proofs.Qxb6628511a
/- THE CELL 'sum', in the pinned program and in every row, IS THE sha256 OF THE DUMP (.gsa) THAT Qxb6628511aProg.lean LOADS. Nothing in Lean hashes anything: it is a label: what it is worth is what the hold of that sum in a sandbox is worth. -/
noncomputable def Try.pinned : Pinned := { name := "qxb6628511a", sum := "3f949acbd5a53b0e380bfe752dcdd7e3a01cf25da254959f3bef8f0fb181b777", checked := Try.checked }
namespace Rows
def none {H : Type} : Left H := { results := [], args := [] }

/-- 'zzlaws_internal_tml_b1.FnColumnsSplitsIntoAnchorAndReturnParts': WHATEVER THE INPUT: true; the input reads as it did. -/
def fnColumnsSplitsIntoAnchorAndReturnPartsSpec : ChangeSpec := { name := "fnColumnsSplitsIntoAnchorAndReturnParts", fn := fun _ => fun
  | [d1, d2] => { results := [.lit (.bool true)], args := [d1, d2] }
  | _ => none }
def fnColumnsSplitsIntoAnchorAndReturnPartsRow : OpenClaim := { program := "qxb6628511a", sum := "3f949acbd5a53b0e380bfe752dcdd7e3a01cf25da254959f3bef8f0fb181b777", func := "example.com/promontory/promontory/zzlaws_internal_tml_b1.FnColumnsSplitsIntoAnchorAndReturnParts", spec := "fnColumnsSplitsIntoAnchorAndReturnParts", apart := false }
def FnColumnsSplitsIntoAnchorAndReturnPartsSaid : Prop := fnColumnsSplitsIntoAnchorAndReturnPartsRow.holds Try.pinned (OpenSpec.ofChange fnColumnsSplitsIntoAnchorAndReturnPartsSpec)

/-- ITS FALSE NEIGHBOUR: 'it returns false'. Refute it at one input. -/
def fnColumnsSplitsIntoAnchorAndReturnPartsWrong : ChangeSpec := { name := "fnColumnsSplitsIntoAnchorAndReturnParts", fn := fun _ => fun
  | [d1, d2] => { results := [.lit (.bool false)], args := [d1, d2] }
  | _ => none }
def FnColumnsSplitsIntoAnchorAndReturnPartsWrongFalsely : Prop := fnColumnsSplitsIntoAnchorAndReturnPartsRow.holds Try.pinned (OpenSpec.ofChange fnColumnsSplitsIntoAnchorAndReturnPartsWrong)

/-- 'zzlaws_internal_tml_b1.FnColumnsInjectiveAndInvertible': WHATEVER THE INPUT: true; the input reads as it did. -/
def fnColumnsInjectiveAndInvertibleSpec : ChangeSpec := { name := "fnColumnsInjectiveAndInvertible", fn := fun _ => fun
  | [d1, d2, d3, d4] => { results := [.lit (.bool true)], args := [d1, d2, d3, d4] }
  | _ => none }
def fnColumnsInjectiveAndInvertibleRow : OpenClaim := { program := "qxb6628511a", sum := "3f949acbd5a53b0e380bfe752dcdd7e3a01cf25da254959f3bef8f0fb181b777", func := "example.com/promontory/promontory/zzlaws_internal_tml_b1.FnColumnsInjectiveAndInvertible", spec := "fnColumnsInjectiveAndInvertible", apart := false }
def FnColumnsInjectiveAndInvertibleSaid : Prop := fnColumnsInjectiveAndInvertibleRow.holds Try.pinned (OpenSpec.ofChange fnColumnsInjectiveAndInvertibleSpec)

/-- ITS FALSE NEIGHBOUR: 'it returns false'. Refute it at one input. -/
def fnColumnsInjectiveAndInvertibleWrong : ChangeSpec := { name := "fnColumnsInjectiveAndInvertible", fn := fun _ => fun
  | [d1, d2, d3, d4] => { results := [.lit (.bool false)], args := [d1, d2, d3, d4] }
  | _ => none }
def FnColumnsInjectiveAndInvertibleWrongFalsely : Prop := fnColumnsInjectiveAndInvertibleRow.holds Try.pinned (OpenSpec.ofChange fnColumnsInjectiveAndInvertibleWrong)

end Rows
end Go.Proofs.Qxb6628511a
