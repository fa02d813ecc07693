/-
  No cell of these rows narrows 'for every input' (looked for: loops, veiled, ifaces, maps, wideKeys, modest, calm, conditions, laid).
  DERIVED. THE GIVEN ROWS OF THIS SEAT. 2 by the template 'for every input the law returns true; each argument reads behind the call as it read before'; 0 by the template 'total and deterministic' (their statements: Qxb6613348aTotals.lean).
  GIVEN WITH THE SEED: the statements are not yours to turn. If you find one false, say at which input.
  Laid BY PROGRAM, IN A SANDBOX (cutbox-rows.mjs): the forced cells as the released guide's own fill.sh prints them over the translation ad4ec2995e48b5e8… (all of the seat's roots in one cut). By AI agents, Wed Nov 11 2026. No macro, syntax, notation, axiom, sorry.
-/
import Derived.Test.Qxb6613348aChecked
import GoSem.Claim
import GoSem.ClaimJoined
import GoSem.ClaimMapViews
import Derived.JoinedTies
import Derived.KernelRfl
namespace Go.Proofs.Qxb6613348a
/- THE CELL 'sum', in the pinned program and in every row, IS THE sha256 OF THE DUMP (.gsa) THAT Qxb6613348aProg.lean LOADS. Nothing in Lean hashes anything: it is a label: what it is worth is what the hold of that sum in a sandbox is worth. -/
noncomputable def Try.pinned : Pinned := { name := "qxb6613348a", sum := "ad4ec2995e48b5e83bd673915c9cdadfb794a1b1bff6ae17152a54b9e3ec6efd", checked := Try.checked }
namespace Rows
def none {H : Type} : Left H := { results := [], args := [] }

/-- 'zzlaws_internal_api_b1.FnAllowedIsSortedUniqueWhateverTheOrder': WHATEVER THE INPUT: true; the input reads as it did. -/
def fnAllowedIsSortedUniqueWhateverTheOrderSpec : ChangeSpec := { name := "fnAllowedIsSortedUniqueWhateverTheOrder", fn := fun _ => fun
  | [d] => { results := [.lit (.bool true)], args := [d] }
  | _ => none }
def fnAllowedIsSortedUniqueWhateverTheOrderRow : OpenClaim := { program := "qxb6613348a", sum := "ad4ec2995e48b5e83bd673915c9cdadfb794a1b1bff6ae17152a54b9e3ec6efd", func := "example.com/scopelatch/scopelatch/zzlaws_internal_api_b1.FnAllowedIsSortedUniqueWhateverTheOrder", spec := "fnAllowedIsSortedUniqueWhateverTheOrder", inPlace := ["internal/abi.NoEscape", "internal/bytealg.MakeNoZero"], unfollowed := true, recurses := true, apart := false }
def FnAllowedIsSortedUniqueWhateverTheOrderSaid : Prop := fnAllowedIsSortedUniqueWhateverTheOrderRow.holds Try.pinned (OpenSpec.ofChange fnAllowedIsSortedUniqueWhateverTheOrderSpec)

/-- ITS FALSE NEIGHBOUR: 'it returns false'. Refute it at one input. -/
def fnAllowedIsSortedUniqueWhateverTheOrderWrong : ChangeSpec := { name := "fnAllowedIsSortedUniqueWhateverTheOrder", fn := fun _ => fun
  | [d] => { results := [.lit (.bool false)], args := [d] }
  | _ => none }
def FnAllowedIsSortedUniqueWhateverTheOrderWrongFalsely : Prop := fnAllowedIsSortedUniqueWhateverTheOrderRow.holds Try.pinned (OpenSpec.ofChange fnAllowedIsSortedUniqueWhateverTheOrderWrong)

/-- 'zzlaws_internal_api_b1.FnAllowedGetBringsHead': WHATEVER THE INPUT: true; the input reads as it did. -/
def fnAllowedGetBringsHeadSpec : ChangeSpec := { name := "fnAllowedGetBringsHead", fn := fun _ => fun
  | [d] => { results := [.lit (.bool true)], args := [d] }
  | _ => none }
def fnAllowedGetBringsHeadRow : OpenClaim := { program := "qxb6613348a", sum := "ad4ec2995e48b5e83bd673915c9cdadfb794a1b1bff6ae17152a54b9e3ec6efd", func := "example.com/scopelatch/scopelatch/zzlaws_internal_api_b1.FnAllowedGetBringsHead", spec := "fnAllowedGetBringsHead", inPlace := ["internal/abi.NoEscape", "internal/bytealg.MakeNoZero"], unfollowed := true, recurses := true, apart := false }
def FnAllowedGetBringsHeadSaid : Prop := fnAllowedGetBringsHeadRow.holds Try.pinned (OpenSpec.ofChange fnAllowedGetBringsHeadSpec)

/-- ITS FALSE NEIGHBOUR: 'it returns false'. Refute it at one input. -/
def fnAllowedGetBringsHeadWrong : ChangeSpec := { name := "fnAllowedGetBringsHead", fn := fun _ => fun
  | [d] => { results := [.lit (.bool false)], args := [d] }
  | _ => none }
def FnAllowedGetBringsHeadWrongFalsely : Prop := fnAllowedGetBringsHeadRow.holds Try.pinned (OpenSpec.ofChange fnAllowedGetBringsHeadWrong)

end Rows
end Go.Proofs.Qxb6613348a
