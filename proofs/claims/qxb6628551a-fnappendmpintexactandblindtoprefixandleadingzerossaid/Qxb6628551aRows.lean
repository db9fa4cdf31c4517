/-
  No cell of these rows narrows 'for every input' (looked for: loops, veiled, ifaces, maps, wideKeys, modest, calm, conditions, laid).
  DERIVED. THE GIVEN ROWS OF THIS SEAT. 2 by the template 'for every input the law returns true; each argument reads behind the call as it read before'; 0 by the template 'total and deterministic' (their statements: Qxb6628551aTotals.lean).
  GIVEN WITH THE SEED: the statements are not yours to turn. If you find one false, say at which input.
  Laid BY PROGRAM, IN A SANDBOX (cutbox-rows.mjs): the forced cells as the released guide's own fill.sh prints them over the translation daebcdd780c6c566… (all of the seat's roots in one cut). By AI agents, Wed Nov 11 2026. No macro, syntax, notation, axiom, sorry.
-/
import Derived.Test.Qxb6628551aChecked
import GoSem.Claim
import GoSem.ClaimJoined
import GoSem.ClaimMapViews
import Derived.JoinedTies
import Derived.KernelRfl
namespace Go.Proofs.Qxb6628551a
/- THE CELL 'sum', in the pinned program and in every row, IS THE sha256 OF THE DUMP (.gsa) THAT Qxb6628551aProg.lean LOADS. Nothing in Lean hashes anything: it is a label: what it is worth is what the hold of that sum in a sandbox is worth. -/
noncomputable def Try.pinned : Pinned := { name := "qxb6628551a", sum := "daebcdd780c6c566ded6c1066672db73e33c712d2d0a7f29356fa56aca4ae631", checked := Try.checked }
namespace Rows
def none {H : Type} : Left H := { results := [], args := [] }

/-- 'zzlaws_internal_wire_b1.FnAppendMpintExactAndBlindToPrefixAndLeadingZeros': WHATEVER THE INPUT: true; the input reads as it did. -/
def fnAppendMpintExactAndBlindToPrefixAndLeadingZerosSpec : ChangeSpec := { name := "fnAppendMpintExactAndBlindToPrefixAndLeadingZeros", fn := fun _ => fun
  | [d1, d2, d3] => { results := [.lit (.bool true)], args := [d1, d2, d3] }
  | _ => none }
def fnAppendMpintExactAndBlindToPrefixAndLeadingZerosRow : OpenClaim := { program := "qxb6628551a", sum := "daebcdd780c6c566ded6c1066672db73e33c712d2d0a7f29356fa56aca4ae631", func := "example.com/watchword/watchword/zzlaws_internal_wire_b1.FnAppendMpintExactAndBlindToPrefixAndLeadingZeros", spec := "fnAppendMpintExactAndBlindToPrefixAndLeadingZeros", named := ["encoding/binary.BigEndian"], apart := false }
def FnAppendMpintExactAndBlindToPrefixAndLeadingZerosSaid : Prop := fnAppendMpintExactAndBlindToPrefixAndLeadingZerosRow.holds Try.pinned (OpenSpec.ofChange fnAppendMpintExactAndBlindToPrefixAndLeadingZerosSpec)

/-- ITS FALSE NEIGHBOUR: 'it returns false'. Refute it at one input. -/
def fnAppendMpintExactAndBlindToPrefixAndLeadingZerosWrong : ChangeSpec := { name := "fnAppendMpintExactAndBlindToPrefixAndLeadingZeros", fn := fun _ => fun
  | [d1, d2, d3] => { results := [.lit (.bool false)], args := [d1, d2, d3] }
  | _ => none }
def FnAppendMpintExactAndBlindToPrefixAndLeadingZerosWrongFalsely : Prop := fnAppendMpintExactAndBlindToPrefixAndLeadingZerosRow.holds Try.pinned (OpenSpec.ofChange fnAppendMpintExactAndBlindToPrefixAndLeadingZerosWrong)

/-- 'zzlaws_internal_wire_b1.FnAppendMpintBodyIsSSHStringAndReencodesToItself': WHATEVER THE INPUT: true; the input reads as it did. -/
def fnAppendMpintBodyIsSSHStringAndReencodesToItselfSpec : ChangeSpec := { name := "fnAppendMpintBodyIsSSHStringAndReencodesToItself", fn := fun _ => fun
  | [d1, d2] => { results := [.lit (.bool true)], args := [d1, d2] }
  | _ => none }
def fnAppendMpintBodyIsSSHStringAndReencodesToItselfRow : OpenClaim := { program := "qxb6628551a", sum := "daebcdd780c6c566ded6c1066672db73e33c712d2d0a7f29356fa56aca4ae631", func := "example.com/watchword/watchword/zzlaws_internal_wire_b1.FnAppendMpintBodyIsSSHStringAndReencodesToItself", spec := "fnAppendMpintBodyIsSSHStringAndReencodesToItself", named := ["encoding/binary.BigEndian"], apart := false }
def FnAppendMpintBodyIsSSHStringAndReencodesToItselfSaid : Prop := fnAppendMpintBodyIsSSHStringAndReencodesToItselfRow.holds Try.pinned (OpenSpec.ofChange fnAppendMpintBodyIsSSHStringAndReencodesToItselfSpec)

/-- ITS FALSE NEIGHBOUR: 'it returns false'. Refute it at one input. -/
def fnAppendMpintBodyIsSSHStringAndReencodesToItselfWrong : ChangeSpec := { name := "fnAppendMpintBodyIsSSHStringAndReencodesToItself", fn := fun _ => fun
  | [d1, d2] => { results := [.lit (.bool false)], args := [d1, d2] }
  | _ => none }
def FnAppendMpintBodyIsSSHStringAndReencodesToItselfWrongFalsely : Prop := fnAppendMpintBodyIsSSHStringAndReencodesToItselfRow.holds Try.pinned (OpenSpec.ofChange fnAppendMpintBodyIsSSHStringAndReencodesToItselfWrong)

end Rows
end Go.Proofs.Qxb6628551a
