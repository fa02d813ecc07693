/-
  THE PROOF OF 'Rows.FnBlocksOpensOneLevelOnlySaid'. The frame is the guide's shell for this function; the walk is ours.
-/
import Derived.Test.Qxb6612943aRows
import Derived.WalkKit
import Derived.ProofKit
import Derived.OpenShut
import Derived.ShutString
import Derived.Laws.MakeOwn
import Derived.Lib.SliceRun
namespace Go.Proofs.Qxb6612943a.fnBlocksOpensOneLevelOnly
open Go.ChangeShapes Go.WideShapes Go.ChangeAt Go.RowKit
open Go.ChangeMaps (open_string shut_string)
set_option linter.unusedVariables false      -- a walk need not use every 'w<i>' (that an integer argument fits its kind)

theorem own : ownKnob Try.prog.godebug = none := by kernel_rfl

/-! ### STEP 1: THE WALK -/
theorem ta40 (v : Value) (xT : TypeId) (w : World) : (Instr.typeAssert (.iface 40 v) xT 40 true).run Try.prog w = .ok (.tuple #[v, .bool true]) w := by
  simp [Instr.typeAssert, run_underlying Try.underlying40, go_sem]

/-- 'make(SamplingBlocks, k)': a new block of k cells. -/
theorem make40 (k : Nat) (hk2 : k ≤ 65536) : ∃ c : Array Value, ∀ w : World, (Instr.makeSlice 40 (.int .i64 (k : Int)) (.int .i64 (k : Int))).run Try.prog w
    = .ok (.slice (some ⟨w.heap.size, 0, none⟩) k k) (w.alloc (.cells c 38)) := by
  have hq : (Try.prog.info? 38).map (fun i => (i.zero, i.bytes)) = some (some .nilIface, 16) := by kernel_rfl
  obtain ⟨i, hi, hzb⟩ := Option.map_eq_some_iff.1 hq
  have hz : i.zero = some .nilIface := congrArg Prod.fst hzb
  have hb : i.bytes = 16 := congrArg Prod.snd hzb
  exact ⟨_, fun w => run_make w 40 38 i .nilIface Try.underlying40 hi hz .i64 .i64 k k (by omega) (Int.le_refl _) (by rw [hb]; omega) (by omega)⟩

theorem nil39 (w : World) (a : Option Addr) (n c : Nat) : (binOp .eql 39 (.slice a n c) (.slice none 0 0)).run Try.prog w = .ok (.bool a.isNone) w :=
  Go.Lib.run_eql_slice_nil w 39 38 a n c 0 0 Try.underlying39

/-- 'Blocks' of nil is nil. -/
theorem blocks_nil (w : World) : Calls Try.prog 17 #[.nilIface] w fun e w' => e = .returned (.slice none 0 0) ∧ w' = w := by
  go_enter Try.func17, Try.ntmps17
  go_wp2
  go_ret
  exact ⟨rfl, rfl⟩

/-- 'Blocks' of a SamplingBlocks is that slice itself. -/
theorem blocks_some (w : World) (p : Option Addr) (n c : Nat) : Calls Try.prog 17 #[.iface 40 (.slice p n c)] w fun e w' => e = .returned (.slice p n c) ∧ w' = w := by
  have h := ta40
  go_enter Try.func17, Try.ntmps17
  go_wp2
  go_ret
  exact ⟨rfl, rfl⟩

/-- 'ZZblocksOfBlock' of a negative number: (1, true, 0). -/
theorem inner_neg (k : Int) (hk : k < 0) (w : World) : Calls Try.prog 13 #[.int .i64 k] w fun e w' => e = .returned (.tuple #[.int .i64 1, .bool true, .int .i64 0]) ∧ Grown w w' := by
  have hn := nil39
  go_enter Try.func13, Try.ntmps13
  go_wp2_with fail
  refine (blocks_some _ _ _ _).mono ?_
  rintro e w' ⟨rfl, rfl⟩
  go_wp2_with fail
  refine (blocks_nil _).mono ?_
  rintro e w' ⟨rfl, rfl⟩
  go_wp2_with fail
  go_ret3
  exact ⟨rfl, by repeat (first | exact Grown.refl _ | apply Grown.drew | apply Grown.alloc)⟩

/-- 'ZZblocksOfBlock' of a number from 0 to 65536: (1, false, k). -/
theorem inner_pos (k : Nat) (hk2 : k ≤ 65536) (w : World) : Calls Try.prog 13 #[.int .i64 (k : Int)] w fun e w' => e = .returned (.tuple #[.int .i64 1, .bool false, .int .i64 (k : Int)]) ∧ Grown w w' := by
  obtain ⟨c, hm⟩ := make40 k hk2
  have hn := nil39
  go_enter Try.func13, Try.ntmps13
  go_wp2_with fail
  refine (blocks_some _ _ _ _).mono ?_
  rintro e w' ⟨rfl, rfl⟩
  go_wp2_with fail
  refine (blocks_some _ _ _ _).mono ?_
  rintro e w' ⟨rfl, rfl⟩
  go_wp2_with fail
  go_ret3
  exact ⟨rfl, by repeat (first | exact Grown.refl _ | apply Grown.drew | apply Grown.alloc)⟩

theorem walk (a0 : Int) (w0 : (Lit.int .i64 a0).wf = true) (w : World) :
    Calls Try.prog 5 #[.int .i64 a0] w fun e w' => e = .returned (.bool true) ∧ Grown w w' := by
  clear w0
  by_cases h1 : 65536 < a0
  · go_enter Try.func5, Try.ntmps5
    go_wp2
    go_ret
    exact ⟨rfl, Grown.refl _⟩
  · by_cases h2 : a0 < 0
    · go_enter Try.func5, Try.ntmps5
      go_wp2_with fail
      refine (inner_neg _ h2 _).mono ?_
      rintro e w' ⟨rfl, hg⟩
      go_wp2_with fail
      go_ret
      exact ⟨rfl, hg⟩
    · obtain ⟨k, rfl⟩ := Int.eq_ofNat_of_zero_le (show 0 ≤ a0 by omega)
      go_enter Try.func5, Try.ntmps5
      go_wp2_with fail
      refine (inner_pos k (by omega) _).mono ?_
      rintro e w' ⟨rfl, hg⟩
      go_wp2_with fail
      go_ret
      exact ⟨rfl, hg⟩

/-! ### THE ROW's STEP: WRITTEN OUT: LEAVE IT -/
set_option maxRecDepth 100000 in
theorem lifted (os : Os) (started : os.Started) (H : Type) (enc : TypeId × Value → H) :
    ReturnsInHanded {} Try.checked os 5 .any (Rows.fnBlocksOpensOneLevelOnlySpec.pre6 enc Try.prog Try.f5 Rows.fnBlocksOpensOneLevelOnlyRow.domain false) (Rows.fnBlocksOpensOneLevelOnlySpec.post enc Try.prog Try.f5 false true false false) := by
  refine returnsInHanded_of_change (C := Try.checked) own started (by kernel_rfl) Try.func5
    (ChangeSpec.witness6 (enc := enc) (C := Try.checked) false ⟨#[], #[.int .i64 0], []⟩ 8 (by kernel_rfl) (by kernel_rfl) (by kernel_rfl) (by kernel_rfl)) ?_
  intro W base args ds gs before hval0 hW hcnd _
  have hval : ∀ (j : Nat) t v, Try.f5.params[j]? = some t → args[j]? = some v → Value.okWide Try.prog W .any base t v := hval0
  have hW' := hW
  obtain ⟨p, q, hA0, hV, rfl, hfz, hnd⟩ := hW
  have hA : DataW.TrodAll enc Try.prog W 0 (fun _ => true) true Try.f5.params.toList args.toList ds p := hA0
  rw [Try.params5] at hA hval
  obtain ⟨v0, vs0, d0, ds0, p0, q0, hargs, rfl, rfl, h0, r0⟩ := trodAll_cons hA
  obtain ⟨rfl, rfl, rfl⟩ := trodAll_nil r0
  obtain rfl : args = #[v0] := by cases args; simp_all
  obtain ⟨rfl, rfl⟩ := trodVars_none hV
  obtain ⟨a0, rfl, rfl, rfl, w0⟩ := open_int Try.underlying3 (hval 0 3 v0 rfl rfl) h0
  clear hA0 hval0
  simp only [List.append_nil] at hW'
  refine (walk a0 w0 W).mono fun e W' ⟨he, hg⟩ => ?_
  subst he
  exact ⟨_, rfl, post_of_same (pa := []) (pv := []) hW' (fun _ _ _ => (trodAll_cons_mk (shut_bool Try.underlying4 _) trodAll_mk0)) (fun sp _ => (trodAll_cons_mk (shut_int Try.underlying3 w0) trodAll_mk0)) (fun _ _ => rfl) rfl
    (hg.frame _) hg.2.1 (ok_one (by kernel_rfl) rfl (okWide_bool_mk Try.underlying4 _))⟩

theorem over : Rows.fnBlocksOpensOneLevelOnlyRow.holds Try.pinned (OpenSpec.ofChange Rows.fnBlocksOpensOneLevelOnlySpec) :=
  OpenClaim.holds_of_wide 5 Try.f5 rfl rfl rfl rfl rfl rfl rfl ⟨rfl, rfl, rfl, rfl, rfl⟩ rfl rfl rfl rfl rfl (by kernel_rfl) Try.func5 (by kernel_rfl)
    (of_decide_eq_true (by kernel_rfl)) (by unfold Func.isWrapper; first | (rw [if_pos (by decide +kernel)]; kernel_rfl) | (rw [if_neg (by decide +kernel)]; exact ⟨rfl, rfl⟩))
    (fun os started H enc _ => lifted os started H enc)

/-- ████ THE STATEMENT ████ -/
theorem proved : Rows.FnBlocksOpensOneLevelOnlySaid :=
  over
#print axioms proved
end Go.Proofs.Qxb6612943a.fnBlocksOpensOneLevelOnly

namespace Go.Proofs.Qxb6612943a
theorem fnBlocksOpensOneLevelOnly_proved : Rows.FnBlocksOpensOneLevelOnlySaid := fnBlocksOpensOneLevelOnly.proved
end Go.Proofs.Qxb6612943a
