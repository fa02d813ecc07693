/-
  No cell of these rows narrows 'for every input' (looked for: loops, veiled, ifaces, maps, wideKeys, modest, calm, conditions, laid).
  DERIVED. THE GIVEN ROWS OF THIS SEAT. 2 by the template 'for every input the law returns true; each argument reads behind the call as it read before'; 0 by the template 'total and deterministic' (their statements: Qxb6613949aTotals.lean).
  GIVEN WITH THE SEED: the statements are not yours to turn. If you find one false, say at which input.
  Laid BY PROGRAM, IN A SANDBOX (cutbox-rows.mjs): the forced cells as the released guide's own fill.sh prints them over the translation b58fe4846d6167af… (all of the seat's roots in one cut). By AI agents, Wed Nov 11 2026. No macro, syntax, notation, axiom, sorry.
-/
import Derived.Test.Qxb6613949aChecked
import GoSem.Claim
import GoSem.ClaimJoined
import GoSem.ClaimMapViews
import Derived.JoinedTies
import Derived.KernelRfl
namespace Go.Proofs.Qxb6613949a
/- THE CELL 'sum', in the pinned program and in every row, IS THE sha256 OF THE DUMP (.gsa) THAT Qxb6613949aProg.lean LOADS. Nothing in Lean hashes anything: it is a label: what it is worth is what the hold of that sum in a sandbox is worth. -/
noncomputable def Try.pinned : Pinned := { name := "qxb6613949a", sum := "b58fe4846d6167af7aece38def32932ed24fa29abc335e365fb2700db4ec0a69", checked := Try.checked }
namespace Rows
def none {H : Type} : Left H := { results := [], args := [] }

/-- 'zzlaws_internal_registryv2_b1.FnRelativeCutsAtAnyPlace': WHATEVER THE INPUT: true; the input reads as it did. -/
def fnRelativeCutsAtAnyPlaceSpec : ChangeSpec := { name := "fnRelativeCutsAtAnyPlace", fn := fun _ => fun
  | [d1, d2] => { results := [.lit (.bool true)], args := [d1, d2] }
  | _ => none }
def fnRelativeCutsAtAnyPlaceRow : OpenClaim := { program := "qxb6613949a", sum := "b58fe4846d6167af7aece38def32932ed24fa29abc335e365fb2700db4ec0a69", func := "example.com/shelfmark/shelfmark/zzlaws_internal_registryv2_b1.FnRelativeCutsAtAnyPlace", spec := "fnRelativeCutsAtAnyPlace", apart := false }
def FnRelativeCutsAtAnyPlaceSaid : Prop := fnRelativeCutsAtAnyPlaceRow.holds Try.pinned (OpenSpec.ofChange fnRelativeCutsAtAnyPlaceSpec)

/-- ITS FALSE NEIGHBOUR: 'it returns false'. Refute it at one input. -/
def fnRelativeCutsAtAnyPlaceWrong : ChangeSpec := { name := "fnRelativeCutsAtAnyPlace", fn := fun _ => fun
  | [d1, d2] => { results := [.lit (.bool false)], args := [d1, d2] }
  | _ => none }
def FnRelativeCutsAtAnyPlaceWrongFalsely : Prop := fnRelativeCutsAtAnyPlaceRow.holds Try.pinned (OpenSpec.ofChange fnRelativeCutsAtAnyPlaceWrong)

/-- 'zzlaws_internal_registryv2_b1.FnAppendNamesEntryChainsAndSeparates': WHATEVER THE INPUT: true; the input reads as it did. -/
def fnAppendNamesEntryChainsAndSeparatesSpec : ChangeSpec := { name := "fnAppendNamesEntryChainsAndSeparates", fn := fun _ => fun
  | [d1, d2, d3] => { results := [.lit (.bool true)], args := [d1, d2, d3] }
  | _ => none }
def fnAppendNamesEntryChainsAndSeparatesRow : OpenClaim := { program := "qxb6613949a", sum := "b58fe4846d6167af7aece38def32932ed24fa29abc335e365fb2700db4ec0a69", func := "example.com/shelfmark/shelfmark/zzlaws_internal_registryv2_b1.FnAppendNamesEntryChainsAndSeparates", spec := "fnAppendNamesEntryChainsAndSeparates", apart := false }
def FnAppendNamesEntryChainsAndSeparatesSaid : Prop := fnAppendNamesEntryChainsAndSeparatesRow.holds Try.pinned (OpenSpec.ofChange fnAppendNamesEntryChainsAndSeparatesSpec)

/-- ITS FALSE NEIGHBOUR: 'it returns false'. Refute it at one input. -/
def fnAppendNamesEntryChainsAndSeparatesWrong : ChangeSpec := { name := "fnAppendNamesEntryChainsAndSeparates", fn := fun _ => fun
  | [d1, d2, d3] => { results := [.lit (.bool false)], args := [d1, d2, d3] }
  | _ => none }
def FnAppendNamesEntryChainsAndSeparatesWrongFalsely : Prop := fnAppendNamesEntryChainsAndSeparatesRow.holds Try.pinned (OpenSpec.ofChange fnAppendNamesEntryChainsAndSeparatesWrong)

end Rows
end Go.Proofs.Qxb6613949a
