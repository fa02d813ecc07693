/-
  THE PROOF OF 'Rows.FnSlotStepsOnAndIgnoresTopBitsSaid'. The frame is the guide's shell for this function; the walk is ours.
-/
import Derived.Test.Qxb6613902aRows
import Derived.Test.Qxb6613902aWalk
import Derived.WalkKit
import Derived.Below
import Derived.ProofKit
import Derived.OpenShut
import Derived.ShutString
namespace Go.Proofs.Qxb6613902a.fnSlotStepsOnAndIgnoresTopBits
open Go.ChangeShapes Go.WideShapes Go.ChangeAt Go.RowKit
open Go.ChangeMaps (open_string shut_string)
set_option linter.unusedVariables false      -- a walk need not use every 'w<i>' (that an integer argument fits its kind)

theorem own : ownKnob Try.prog.godebug = none := by kernel_rfl

/-! ### STEP 1: THE WALK -/
/-- Where the test does not let n by, the law answers true at once. -/
theorem law_no (a0 a1 a2 : Int) (hno : a2 < 1 ∨ 65536 < a2 ∨ bits .and .i64 a2 (a2 - 1) ≠ 0) (w : World) :
    Calls Try.prog 4 #[.int .u64 a0, .int .u16 a1, .int .i64 a2] w fun e w' => e = .returned (.bool true) ∧ Grown w w' := by
  by_cases h1 : a2 < 1
  · clear hno
    go_enter Try.func4, Try.ntmps4
    go_wp2_with fail
    go_ret
    exact ⟨rfl, by repeat (first | exact Grown.refl _ | apply Grown.drew | apply Grown.alloc)⟩
  · by_cases h2 : 65536 < a2
    · clear hno
      have b1 : decide (a2 < 1) = false := by simp; omega
      go_enter Try.func4, Try.ntmps4
      go_wp2_with fail
      go_ret
      exact ⟨rfl, by repeat (first | exact Grown.refl _ | apply Grown.drew | apply Grown.alloc)⟩
    · have h3 : (bits .and .i64 a2 (a2 - 1) != 0) = true := by
        rw [bne_iff_ne]
        rcases hno with h | h | h
        · exact absurd h h1
        · exact absurd h h2
        · exact h
      clear hno
      have b1 : decide (a2 < 1) = false := by simp; omega
      have b2 : decide (65536 < a2) = false := by simp; omega
      have h4 : 1 ≤ a2 := by omega
      have h5 : a2 ≤ 65536 := by omega
      clear h1 h2
      go_enter Try.func4, Try.ntmps4
      go_wp2_with fail
      go_ret
      exact ⟨rfl, by repeat (first | exact Grown.refl _ | apply Grown.drew | apply Grown.alloc)⟩

set_option maxHeartbeats 400000 in
set_option maxRecDepth 10000 in
theorem law_yes (h t n : Nat) (h1 : 1 ≤ n) (h2 : n ≤ 65536) (hh : h < 18446744073709551616) (htt : t < 65536) (ht : bits .and .i64 (n : Int) ((n : Int) - 1) = 0) (w : World) :
    Calls Try.prog 4 #[.int .u64 (h : Int), .int .u16 (t : Int), .int .i64 (n : Int)] w fun e w' => e = .returned (.bool true) ∧ Grown w w' := by
  have hp := Plain.pow2_of_test n h1 (by omega) ht
  have Hp1 : Hid (∃ i, i ≤ 17 ∧ n = 2 ^ i) := by obtain ⟨i, hi, e⟩ := hp; exact ⟨i, by omega, e⟩
  clear hp
  obtain ⟨m, em, hm⟩ := Plain.wrap_succ h n Hp1.out
  have Hm : Hid (m % n = (h % n + 1) % n) := hm
  clear hm
  obtain ⟨x, ex, hx⟩ := Plain.xor_top h t n hh htt Hp1.out
  have Hx : Hid (x % n = h % n) := hx
  clear hx
  have b1 : decide ((n : Int) < 1) = false := by simp; omega
  have b2 : decide (65536 < (n : Int)) = false := by simp; omega
  go_enter Try.func4, Try.ntmps4
  go_wp2_with fail
  refine (new_walk _ n (by omega)).mono ?_
  rintro e w' ⟨c1, d1, p1, rfl, rfl, g1⟩
  go_wp2_with fail
  refine (slot_walk _ _ p1 n n h Hp1.out h1 (by omega) (by simp [go_sem, g1])).mono ?_
  rintro e w' ⟨rfl, rfl⟩
  go_wp2_with fail
  refine (slot_walk _ _ p1 n n m Hp1.out h1 (by omega) (by simp [go_sem, g1])).mono ?_
  rintro e w' ⟨rfl, rfl⟩
  rw [Hm.out]
  go_wp2_with fail
  refine (slot_walk _ _ p1 n n x Hp1.out h1 (by omega) (by simp [go_sem, g1])).mono ?_
  rintro e w' ⟨rfl, rfl⟩
  rw [Hx.out]
  have e1 := Plain.wrap_rem h n h1 h2
  have e5 := Plain.wrap_rem1 h n h1 h2
  have e6 := Plain.tmod_rem1 h n h1
  have e7 : (((h : Int) + 1) % (n : Int) == ((h : Int) + 1) % (n : Int)) = true := beq_self_eq_true _
  have e8 : ((h : Int) % (n : Int) == (h : Int) % (n : Int)) = true := beq_self_eq_true _
  go_wp2_with fail
  go_ret
  exact ⟨rfl, by repeat (first | exact Grown.refl _ | apply Grown.drew | apply Grown.alloc)⟩

theorem walk (a0 : Int) (a1 : Int) (a2 : Int) (w0 : (Lit.int .u64 a0).wf = true) (w1 : (Lit.int .u16 a1).wf = true) (w2 : (Lit.int .i64 a2).wf = true) (w : World) :
    Calls Try.prog 4 #[.int .u64 a0, .int .u16 a1, .int .i64 a2] w fun e w' => e = .returned (.bool true) ∧ Grown w w' := by
  by_cases hno : a2 < 1 ∨ 65536 < a2 ∨ bits .and .i64 a2 (a2 - 1) ≠ 0
  · exact law_no a0 a1 a2 hno w
  · have hb : 0 ≤ a0 ∧ a0 ≤ 18446744073709551615 := by
      simpa [Lit.wf, IntKind.min, IntKind.max, IntKind.signed, IntKind.bits] using w0
    have hb1 : 0 ≤ a1 ∧ a1 ≤ 65535 := by
      simpa [Lit.wf, IntKind.min, IntKind.max, IntKind.signed, IntKind.bits] using w1
    obtain ⟨h, rfl⟩ := Int.eq_ofNat_of_zero_le hb.1
    obtain ⟨t, rfl⟩ := Int.eq_ofNat_of_zero_le hb1.1
    obtain ⟨n, rfl⟩ := Int.eq_ofNat_of_zero_le (show 0 ≤ a2 by omega)
    exact law_yes h t n (by omega) (by omega) (by omega) (by omega) (Decidable.byContradiction fun hc => hno (Or.inr (Or.inr hc))) w

/-! ### THE ROW's STEP: WRITTEN OUT: LEAVE IT -/
set_option maxRecDepth 100000 in
theorem lifted (os : Os) (started : os.Started) (H : Type) (enc : TypeId × Value → H) :
    ReturnsInHanded {} Try.checked os 4 .any (Rows.fnSlotStepsOnAndIgnoresTopBitsSpec.pre6 enc Try.prog Try.f4 Rows.fnSlotStepsOnAndIgnoresTopBitsRow.domain false) (Rows.fnSlotStepsOnAndIgnoresTopBitsSpec.post enc Try.prog Try.f4 false true false false) := by
  refine returnsInHanded_of_change (C := Try.checked) own started (by kernel_rfl) Try.func4
    (ChangeSpec.witness6 (enc := enc) (C := Try.checked) false ⟨#[], #[.int .u64 0, .int .u16 0, .int .i64 0], []⟩ 8 (by kernel_rfl) (by kernel_rfl) (by kernel_rfl) (by kernel_rfl)) ?_
  intro W base args ds gs before hval0 hW hcnd _
  have hval : ∀ (j : Nat) t v, Try.f4.params[j]? = some t → args[j]? = some v → Value.okWide Try.prog W .any base t v := hval0
  have hW' := hW
  obtain ⟨p, q, hA0, hV, rfl, hfz, hnd⟩ := hW
  have hA : DataW.TrodAll enc Try.prog W 0 (fun _ => true) true Try.f4.params.toList args.toList ds p := hA0
  rw [Try.params4] at hA hval
  obtain ⟨v0, vs0, d0, ds0, p0, q0, hargs, rfl, rfl, h0, r0⟩ := trodAll_cons hA
  obtain ⟨v1, vs1, d1, ds1, p1, q1, rfl, rfl, rfl, h1, r1⟩ := trodAll_cons r0
  obtain ⟨v2, vs2, d2, ds2, p2, q2, rfl, rfl, rfl, h2, r2⟩ := trodAll_cons r1
  obtain ⟨rfl, rfl, rfl⟩ := trodAll_nil r2
  obtain rfl : args = #[v0, v1, v2] := by cases args; simp_all
  obtain ⟨rfl, rfl⟩ := trodVars_none hV
  obtain ⟨a0, rfl, rfl, rfl, w0⟩ := open_int Try.underlying22 (hval 0 22 v0 rfl rfl) h0
  obtain ⟨a1, rfl, rfl, rfl, w1⟩ := open_int Try.underlying27 (hval 1 27 v1 rfl rfl) h1
  obtain ⟨a2, rfl, rfl, rfl, w2⟩ := open_int Try.underlying3 (hval 2 3 v2 rfl rfl) h2
  clear hA0 hval0
  simp only [List.append_nil] at hW'
  refine (walk a0 a1 a2 w0 w1 w2 W).mono fun e W' ⟨he, hg⟩ => ?_
  subst he
  exact ⟨_, rfl, post_of_same (pa := []) (pv := []) hW' (fun _ _ _ => (trodAll_cons_mk (shut_bool Try.underlying4 _) trodAll_mk0)) (fun sp _ => (trodAll_cons_mk (shut_int Try.underlying22 w0) (trodAll_cons_mk (shut_int Try.underlying27 w1) (trodAll_cons_mk (shut_int Try.underlying3 w2) trodAll_mk0)))) (fun _ _ => rfl) rfl
    (hg.frame _) hg.2.1 (ok_one (by kernel_rfl) rfl (okWide_bool_mk Try.underlying4 _))⟩

theorem over : Rows.fnSlotStepsOnAndIgnoresTopBitsRow.holds Try.pinned (OpenSpec.ofChange Rows.fnSlotStepsOnAndIgnoresTopBitsSpec) :=
  OpenClaim.holds_of_wide 4 Try.f4 rfl rfl rfl rfl rfl rfl rfl ⟨rfl, rfl, rfl, rfl, rfl⟩ rfl rfl rfl rfl rfl (by kernel_rfl) Try.func4 (by kernel_rfl)
    (of_decide_eq_true (by kernel_rfl)) (by unfold Func.isWrapper; first | (rw [if_pos (by decide +kernel)]; kernel_rfl) | (rw [if_neg (by decide +kernel)]; exact ⟨rfl, rfl⟩))
    (fun os started H enc _ => lifted os started H enc)

/-- ████ THE STATEMENT ████ -/
theorem proved : Rows.FnSlotStepsOnAndIgnoresTopBitsSaid :=
  over
#print axioms proved
end Go.Proofs.Qxb6613902a.fnSlotStepsOnAndIgnoresTopBits

namespace Go.Proofs.Qxb6613902a
theorem fnSlotStepsOnAndIgnoresTopBits_proved : Rows.FnSlotStepsOnAndIgnoresTopBitsSaid := fnSlotStepsOnAndIgnoresTopBits.proved
end Go.Proofs.Qxb6613902a
