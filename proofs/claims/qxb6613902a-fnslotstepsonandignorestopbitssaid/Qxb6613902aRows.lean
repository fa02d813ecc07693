/-
  No cell of these rows narrows 'for every input' (looked for: loops, veiled, ifaces, maps, wideKeys, modest, calm, conditions, laid).
  DERIVED. THE GIVEN ROWS OF THIS SEAT. 2 by the template 'for every input the law returns true; each argument reads behind the call as it read before'; 0 by the template 'total and deterministic' (their statements: Qxb6613902aTotals.lean).
  GIVEN WITH THE SEED: the statements are not yours to turn. If you find one false, say at which input.
  Laid BY PROGRAM, IN A SANDBOX (cutbox-rows.mjs): the forced cells as the released guide's own fill.sh prints them over the translation 85473d76b27b7a51… (all of the seat's roots in one cut). By AI agents, Wed Nov 11 2026. No macro, syntax, notation, axiom, sorry.
-/
import Derived.Test.Qxb6613902aChecked
import GoSem.Claim
import GoSem.ClaimJoined
import GoSem.ClaimMapViews
import Derived.JoinedTies
import Derived.KernelRfl
namespace Go.Proofs.Qxb6613902a
/- THE CELL 'sum', in the pinned program and in every row, IS THE sha256 OF THE DUMP (.gsa) THAT Qxb6613902aProg.lean LOADS. Nothing in Lean hashes anything: it is a label: what it is worth is what the hold of that sum in a sandbox is worth. -/
noncomputable def Try.pinned : Pinned := { name := "qxb6613902a", sum := "85473d76b27b7a5165207be9ac7903dd54bc5d178bc17983a85a6ff4dd7a67ca", checked := Try.checked }
namespace Rows
def none {H : Type} : Left H := { results := [], args := [] }

/-- 'zzlaws_internal_detect_attack_b1.FnSlotAgreesAcrossDoubledTable': WHATEVER THE INPUT: true; the input reads as it did. -/
def fnSlotAgreesAcrossDoubledTableSpec : ChangeSpec := { name := "fnSlotAgreesAcrossDoubledTable", fn := fun _ => fun
  | [d1, d2] => { results := [.lit (.bool true)], args := [d1, d2] }
  | _ => none }
def fnSlotAgreesAcrossDoubledTableRow : OpenClaim := { program := "qxb6613902a", sum := "85473d76b27b7a5165207be9ac7903dd54bc5d178bc17983a85a6ff4dd7a67ca", func := "example.com/portcullis/portcullis/zzlaws_internal_detect_attack_b1.FnSlotAgreesAcrossDoubledTable", spec := "fnSlotAgreesAcrossDoubledTable", apart := false }
def FnSlotAgreesAcrossDoubledTableSaid : Prop := fnSlotAgreesAcrossDoubledTableRow.holds Try.pinned (OpenSpec.ofChange fnSlotAgreesAcrossDoubledTableSpec)

/-- ITS FALSE NEIGHBOUR: 'it returns false'. Refute it at one input. -/
def fnSlotAgreesAcrossDoubledTableWrong : ChangeSpec := { name := "fnSlotAgreesAcrossDoubledTable", fn := fun _ => fun
  | [d1, d2] => { results := [.lit (.bool false)], args := [d1, d2] }
  | _ => none }
def FnSlotAgreesAcrossDoubledTableWrongFalsely : Prop := fnSlotAgreesAcrossDoubledTableRow.holds Try.pinned (OpenSpec.ofChange fnSlotAgreesAcrossDoubledTableWrong)

/-- 'zzlaws_internal_detect_attack_b1.FnSlotStepsOnAndIgnoresTopBits': WHATEVER THE INPUT: true; the input reads as it did. -/
def fnSlotStepsOnAndIgnoresTopBitsSpec : ChangeSpec := { name := "fnSlotStepsOnAndIgnoresTopBits", fn := fun _ => fun
  | [d1, d2, d3] => { results := [.lit (.bool true)], args := [d1, d2, d3] }
  | _ => none }
def fnSlotStepsOnAndIgnoresTopBitsRow : OpenClaim := { program := "qxb6613902a", sum := "85473d76b27b7a5165207be9ac7903dd54bc5d178bc17983a85a6ff4dd7a67ca", func := "example.com/portcullis/portcullis/zzlaws_internal_detect_attack_b1.FnSlotStepsOnAndIgnoresTopBits", spec := "fnSlotStepsOnAndIgnoresTopBits", apart := false }
def FnSlotStepsOnAndIgnoresTopBitsSaid : Prop := fnSlotStepsOnAndIgnoresTopBitsRow.holds Try.pinned (OpenSpec.ofChange fnSlotStepsOnAndIgnoresTopBitsSpec)

/-- ITS FALSE NEIGHBOUR: 'it returns false'. Refute it at one input. -/
def fnSlotStepsOnAndIgnoresTopBitsWrong : ChangeSpec := { name := "fnSlotStepsOnAndIgnoresTopBits", fn := fun _ => fun
  | [d1, d2, d3] => { results := [.lit (.bool false)], args := [d1, d2, d3] }
  | _ => none }
def FnSlotStepsOnAndIgnoresTopBitsWrongFalsely : Prop := fnSlotStepsOnAndIgnoresTopBitsRow.holds Try.pinned (OpenSpec.ofChange fnSlotStepsOnAndIgnoresTopBitsWrong)

end Rows
end Go.Proofs.Qxb6613902a
