/-
  THE PROOF OF 'Rows.FnRelativeCutsAtAnyPlaceSaid'. The frame is the guide's shell for this function; the walk is ours.
-/
import Derived.Test.Qxb6613949aRows
import Derived.Test.Qxb6613949aRel
import Derived.WalkKit
import Derived.Below
import Derived.BigQuiet
import Derived.Deep.QuietTactic
import Derived.Laws.Concat
import Derived.ProofKit
import Derived.OpenShut
import Derived.ShutString
namespace Go.Proofs.Qxb6613949a.fnRelativeCutsAtAnyPlace
open Go.ChangeShapes Go.WideShapes Go.ChangeAt Go.RowKit
open Go.ChangeMaps (open_string shut_string)
set_option linter.unusedVariables false      -- a walk need not use every 'w<i>' (that an integer argument fits its kind)

theorem own : ownKnob Try.prog.godebug = none := by kernel_rfl

/-! ### STEP 1: THE WALK -/
theorem rel_slash (s : ByteArray) : rel (⟨#[47]⟩ ++ s) = s := by
  apply ByteArray.ext
  apply Array.toList_inj.1
  simp [rel, Lib.trimPrefix, Lib.hasPrefix, ByteArray.data_append]

theorem trim_cut (l : List UInt8) (i : Nat) (h1 : 1 ≤ i) : Lib.trimPrefix (l.take i) [47] ++ l.drop i = Lib.trimPrefix l [47] := by
  obtain ⟨k, rfl⟩ : ∃ k, i = k + 1 := ⟨i - 1, by omega⟩
  cases l with
  | nil => simp [Lib.trimPrefix, Lib.hasPrefix]
  | cons a t =>
    simp only [Lib.trimPrefix, Lib.hasPrefix, List.take_succ_cons, List.drop_succ_cons, List.isPrefixOf, Bool.and_true]
    split <;> simp

theorem rel_cut (s : ByteArray) (i : Nat) (h1 : 1 ≤ i) : rel (s.extract 0 i) ++ s.extract i s.size = rel s := by
  apply ByteArray.ext
  apply Array.toList_inj.1
  simp only [rel, ByteArray.data_append, Array.toList_append, ByteArray.data_extract]
  have e1 : (s.data.extract 0 i).toList = s.data.toList.take i := by simp
  have e2 : (s.data.extract i s.size).toList = s.data.toList.drop i := by
    rw [Array.toList_extract, List.extract_eq_drop_take']
    rw [show s.size = s.data.toList.length from rfl, List.take_length]
  rw [e1, e2]
  exact trim_cut _ i h1

theorem rel_size (s : ByteArray) : (rel s).size ≤ s.size := by
  show (Lib.trimPrefix s.data.toList [47]).toArray.size ≤ s.data.size
  unfold Lib.trimPrefix
  split <;> simp

theorem law_yes (s : ByteArray) (i : Nat) (hs : s.size ≤ 1048576) (h1 : 1 ≤ i) (h2 : i ≤ s.size) (w : World) :
    Calls Try.prog 3 #[.string s, .int .i64 (i : Int)] w fun e w' => e = .returned (.bool true) ∧ Grown w w' := by
  have hr := rel_slash s
  have hz := rel_size (s.extract 0 i)
  have hadd : ∀ w, (Op.stringOp .add (rel (s.extract 0 i)) (s.extract i s.size)).run Try.prog w = .ok (.string (rel s)) w := by
    intro w
    rw [run_string_add_sum w _ _ (by simp at hz ⊢; omega), rel_cut s i h1]
  clear hz
  have b1 : decide ((i : Int) < 1) = false := by simp; omega
  have b2 : decide ((s.size : Int) < (i : Int)) = false := by simp; omega
  go_enter Try.func3, Try.ntmps3
  go_wp2_with fail
  refine (bytes5_yes _ _ hs _).mono ?_
  rintro e w' ⟨rfl, rfl⟩
  go_wp2_with fail
  refine (rel6 _ _).mono ?_
  rintro e w' ⟨rfl, rfl⟩
  rw [hr]
  clear hr
  go_wp2_with fail
  go_quiet ((go_at_call 6; exact Calls.quiet_of_same (rel6 _ _)))
  go_wp2_with fail
  go_ret
  exact ⟨rfl, by repeat (first | exact Grown.refl _ | apply Grown.drew | apply Grown.alloc)⟩

/-- A cut that is none: the law answers true behind its first test. -/
theorem law_out (s : ByteArray) (i : Int) (hs : s.size ≤ 1048576) (h : i < 1 ∨ (s.size : Int) < i) (w : World) :
    Calls Try.prog 3 #[.string s, .int .i64 i] w fun e w' => e = .returned (.bool true) ∧ Grown w w' := by
  have hr := rel_slash s
  by_cases h1 : i < 1
  · clear h
    go_enter Try.func3, Try.ntmps3
    go_wp2_with fail
    refine (bytes5_yes _ _ hs _).mono ?_
    rintro e w' ⟨rfl, rfl⟩
    go_wp2_with fail
    refine (rel6 _ _).mono ?_
    rintro e w' ⟨rfl, rfl⟩
    rw [hr]
    clear hr
    go_wp2_with fail
    go_ret
    exact ⟨rfl, by repeat (first | exact Grown.refl _ | apply Grown.drew | apply Grown.alloc)⟩
  · have h2 : (s.size : Int) < i := by omega
    have b1 : decide (i < 1) = false := by simp; omega
    clear h h1
    go_enter Try.func3, Try.ntmps3
    go_wp2_with fail
    refine (bytes5_yes _ _ hs _).mono ?_
    rintro e w' ⟨rfl, rfl⟩
    go_wp2_with fail
    refine (rel6 _ _).mono ?_
    rintro e w' ⟨rfl, rfl⟩
    rw [hr]
    clear hr
    go_wp2_with fail
    go_ret
    exact ⟨rfl, by repeat (first | exact Grown.refl _ | apply Grown.drew | apply Grown.alloc)⟩

/-- A longer text: the law answers true at once. -/
theorem law_long (s : ByteArray) (i : Int) (hs : ¬ s.size ≤ 1048576) (w : World) :
    Calls Try.prog 3 #[.string s, .int .i64 i] w fun e w' => e = .returned (.bool true) ∧ Grown w w' := by
  go_enter Try.func3, Try.ntmps3
  go_wp2_with fail
  refine (bytes5_no _ _ hs _).mono ?_
  rintro e w' ⟨rfl, rfl⟩
  go_wp2_with fail
  go_ret
  exact ⟨rfl, by repeat (first | exact Grown.refl _ | apply Grown.drew | apply Grown.alloc)⟩

theorem walk (a0 : ByteArray) (a1 : Int) (w0 : a0.size ≤ maxLen) (w1 : (Lit.int .i64 a1).wf = true) (w : World) :
    Calls Try.prog 3 #[.string a0, .int .i64 a1] w fun e w' => e = .returned (.bool true) ∧ Grown w w' := by
  by_cases hs : a0.size ≤ 1048576
  · by_cases h : a1 < 1 ∨ (a0.size : Int) < a1
    · exact law_out a0 a1 hs h w
    · obtain ⟨i, rfl⟩ := Int.eq_ofNat_of_zero_le (show 0 ≤ a1 by omega)
      exact law_yes a0 i hs (by omega) (by omega) w
  · exact law_long a0 a1 hs w

/-! ### THE ROW's STEP: WRITTEN OUT: LEAVE IT -/
set_option maxRecDepth 100000 in
theorem lifted (os : Os) (started : os.Started) (H : Type) (enc : TypeId × Value → H) :
    ReturnsInHanded {} Try.checked os 3 .any (Rows.fnRelativeCutsAtAnyPlaceSpec.pre6 enc Try.prog Try.f3 Rows.fnRelativeCutsAtAnyPlaceRow.domain false) (Rows.fnRelativeCutsAtAnyPlaceSpec.post enc Try.prog Try.f3 false true false false) := by
  refine returnsInHanded_of_change (C := Try.checked) own started (by kernel_rfl) Try.func3
    (ChangeSpec.witness6 (enc := enc) (C := Try.checked) false ⟨#[], #[.string ByteArray.empty, .int .i64 0], []⟩ 8 (by kernel_rfl) (by kernel_rfl) (by kernel_rfl) (by kernel_rfl)) ?_
  intro W base args ds gs before hval0 hW hcnd _
  have hval : ∀ (j : Nat) t v, Try.f3.params[j]? = some t → args[j]? = some v → Value.okWide Try.prog W .any base t v := hval0
  have hW' := hW
  obtain ⟨p, q, hA0, hV, rfl, hfz, hnd⟩ := hW
  have hA : DataW.TrodAll enc Try.prog W 0 (fun _ => true) true Try.f3.params.toList args.toList ds p := hA0
  rw [Try.params3] at hA hval
  obtain ⟨v0, vs0, d0, ds0, p0, q0, hargs, rfl, rfl, h0, r0⟩ := trodAll_cons hA
  obtain ⟨v1, vs1, d1, ds1, p1, q1, rfl, rfl, rfl, h1, r1⟩ := trodAll_cons r0
  obtain ⟨rfl, rfl, rfl⟩ := trodAll_nil r1
  obtain rfl : args = #[v0, v1] := by cases args; simp_all
  obtain ⟨rfl, rfl⟩ := trodVars_none hV
  obtain ⟨a0, rfl, rfl, rfl, w0⟩ := open_string Try.underlying9 (hval 0 9 v0 rfl rfl) h0
  obtain ⟨a1, rfl, rfl, rfl, w1⟩ := open_int Try.underlying3 (hval 1 3 v1 rfl rfl) h1
  clear hA0 hval0
  simp only [List.append_nil] at hW'
  refine (walk a0 a1 w0 w1 W).mono fun e W' ⟨he, hg⟩ => ?_
  subst he
  exact ⟨_, rfl, post_of_same (pa := []) (pv := []) hW' (fun _ _ _ => (trodAll_cons_mk (shut_bool Try.underlying4 _) trodAll_mk0)) (fun sp _ => (trodAll_cons_mk (shut_string Try.underlying9 w0) (trodAll_cons_mk (shut_int Try.underlying3 w1) trodAll_mk0))) (fun _ _ => rfl) rfl
    (hg.frame _) hg.2.1 (ok_one (by kernel_rfl) rfl (okWide_bool_mk Try.underlying4 _))⟩

theorem over : Rows.fnRelativeCutsAtAnyPlaceRow.holds Try.pinned (OpenSpec.ofChange Rows.fnRelativeCutsAtAnyPlaceSpec) :=
  OpenClaim.holds_of_wide 3 Try.f3 rfl rfl rfl rfl rfl rfl rfl ⟨rfl, rfl, rfl, rfl, rfl⟩ rfl rfl rfl rfl rfl (by kernel_rfl) Try.func3 (by kernel_rfl)
    (of_decide_eq_true (by kernel_rfl)) (by unfold Func.isWrapper; first | (rw [if_pos (by decide +kernel)]; kernel_rfl) | (rw [if_neg (by decide +kernel)]; exact ⟨rfl, rfl⟩))
    (fun os started H enc _ => lifted os started H enc)

/-- ████ THE STATEMENT ████ -/
theorem proved : Rows.FnRelativeCutsAtAnyPlaceSaid :=
  over
#print axioms proved
end Go.Proofs.Qxb6613949a.fnRelativeCutsAtAnyPlace

namespace Go.Proofs.Qxb6613949a
theorem fnRelativeCutsAtAnyPlace_proved : Rows.FnRelativeCutsAtAnyPlaceSaid := fnRelativeCutsAtAnyPlace.proved
end Go.Proofs.Qxb6613949a
