/-
  THE PROOF OF 'Rows.FnSlotAgreesAcrossDoubledTableSaid'. The frame is the guide's shell for this function; the walk is ours.
-/
import Derived.Test.Qxb6613902aRows
import Derived.Test.Qxb6613902aWalk
import Derived.WalkKit
import Derived.Below
import Derived.ProofKit
import Derived.OpenShut
import Derived.ShutString
namespace Go.Proofs.Qxb6613902a.fnSlotAgreesAcrossDoubledTable
open Go.ChangeShapes Go.WideShapes Go.ChangeAt Go.RowKit
open Go.ChangeMaps (open_string shut_string)
set_option linter.unusedVariables false      -- a walk need not use every 'w<i>' (that an integer argument fits its kind)

theorem own : ownKnob Try.prog.godebug = none := by kernel_rfl

/-! ### STEP 1: THE WALK -/
/-- Where the test does not let n by, the law answers true at once. -/
theorem law_no (a0 : Int) (a1 : Int) (hno : a1 < 1 ∨ 32768 < a1 ∨ bits .and .i64 a1 (a1 - 1) ≠ 0) (w : World) :
    Calls Try.prog 3 #[.int .u64 a0, .int .i64 a1] w fun e w' => e = .returned (.bool true) ∧ Grown w w' := by
  by_cases h1 : a1 < 1
  · clear hno
    go_enter Try.func3, Try.ntmps3
    go_wp2_with fail
    go_ret
    exact ⟨rfl, by repeat (first | exact Grown.refl _ | apply Grown.drew | apply Grown.alloc)⟩
  · by_cases h2 : 32768 < a1
    · clear hno
      have b1 : decide (a1 < 1) = false := by simp; omega
      go_enter Try.func3, Try.ntmps3
      go_wp2_with fail
      go_ret
      exact ⟨rfl, by repeat (first | exact Grown.refl _ | apply Grown.drew | apply Grown.alloc)⟩
    · have h3 : (bits .and .i64 a1 (a1 - 1) != 0) = true := by
        rw [bne_iff_ne]
        rcases hno with h | h | h
        · exact absurd h h1
        · exact absurd h h2
        · exact h
      clear hno
      have b1 : decide (a1 < 1) = false := by simp; omega
      have b2 : decide (32768 < a1) = false := by simp; omega
      have h4 : 1 ≤ a1 := by omega
      have h5 : a1 ≤ 32768 := by omega
      clear h1 h2
      go_enter Try.func3, Try.ntmps3
      go_wp2_with fail
      go_ret
      exact ⟨rfl, by repeat (first | exact Grown.refl _ | apply Grown.drew | apply Grown.alloc)⟩

set_option maxHeartbeats 400000 in
theorem law_yes (h n : Nat) (h1 : 1 ≤ n) (h2 : n ≤ 32768) (hh : h < 18446744073709551616) (ht : bits .and .i64 (n : Int) ((n : Int) - 1) = 0) (w : World) :
    Calls Try.prog 3 #[.int .u64 (h : Int), .int .i64 (n : Int)] w fun e w' => e = .returned (.bool true) ∧ Grown w w' := by
  have hp := Plain.pow2_of_test n h1 (by omega) ht
  have hp1 : ∃ i, i ≤ 17 ∧ n = 2 ^ i := by obtain ⟨i, hi, e⟩ := hp; exact ⟨i, by omega, e⟩
  have hp2 : ∃ i, i ≤ 17 ∧ 2 * n = 2 ^ i := by obtain ⟨i, hi, e⟩ := hp; exact ⟨i + 1, by omega, by rw [e, Nat.pow_succ]; omega⟩
  have Hp1 : Hid (∃ i, i ≤ 17 ∧ n = 2 ^ i) := hp1
  have Hp2 : Hid (∃ i, i ≤ 17 ∧ 2 * n = 2 ^ i) := hp2
  clear hp hp1 hp2
  have b1 : decide ((n : Int) < 1) = false := by simp; omega
  have b2 : decide (32768 < (n : Int)) = false := by simp; omega
  go_enter Try.func3, Try.ntmps3
  go_wp2_with fail
  refine (new_walk _ n (by omega)).mono ?_
  rintro e w' ⟨c1, d1, p1, rfl, rfl, g1⟩
  go_wp2_with fail
  rw [show (2 * (n : Int)) = ((2 * n : Nat) : Int) by omega]
  refine (new_walk _ (2 * n) (by omega)).mono ?_
  rintro e w' ⟨c2, d2, p2, rfl, rfl, g2⟩
  go_wp2_with fail
  refine (slot_walk _ _ p1 n n h Hp1.out h1 (by omega) (by simp [go_sem, g1])).mono ?_
  rintro e w' ⟨rfl, rfl⟩
  go_wp2_with fail
  refine (slot_walk _ _ p2 (2 * n) (2 * n) h Hp2.out (by omega) (by omega) (by simp [go_sem, g2])).mono ?_
  rintro e w' ⟨rfl, rfl⟩
  have r0 : (h : Int) % (n : Int) = ((h % n : Nat) : Int) := by rw [Int.natCast_emod]
  have r1 : h % n < n := Nat.mod_lt _ (by omega)
  have e1 : wrap64 ((h : Int) % (n : Int)) = (h : Int) % (n : Int) := by rw [r0]; unfold wrap64; omega
  have e4 : wrap64 ((h : Int) % (n : Int) + (n : Int)) = (h : Int) % (n : Int) + (n : Int) := by rw [r0]; unfold wrap64; omega
  have q0 : (h : Int) / (n : Int) = ((h / n : Nat) : Int) := by rw [Int.natCast_ediv]
  have q1 : h / n ≤ h := Nat.div_le_self _ _
  have e2 : IntKind.u64.wrap ((h : Int) / (n : Int)) = (h : Int) / (n : Int) := by
    rw [q0]; exact Plain.u64_wrap_nat _ (by omega)
  have q2 : ((h : Int) / (n : Int)).tmod 2 = ((h / n % 2 : Nat) : Int) := by rw [q0]; rfl
  by_cases hq : h / n % 2 = 0
  · have e3 : (((h : Int) / (n : Int)).tmod 2 == 0) = true := by rw [q2, hq]; rfl
    rw [Plain.double_even h n hq]
    clear q0 q1 q2 r0 r1 hq
    go_wp2_with fail
    go_ret
    exact ⟨rfl, by repeat (first | exact Grown.refl _ | apply Grown.drew | apply Grown.alloc)⟩
  · have e3 : (((h : Int) / (n : Int)).tmod 2 == 0) = false := by rw [q2, show h / n % 2 = 1 by omega]; rfl
    rw [Plain.double_odd h n hq]
    clear q0 q1 q2 r0 r1 hq
    go_wp2_with fail
    go_ret
    exact ⟨rfl, by repeat (first | exact Grown.refl _ | apply Grown.drew | apply Grown.alloc)⟩

theorem walk (a0 : Int) (a1 : Int) (w0 : (Lit.int .u64 a0).wf = true) (w1 : (Lit.int .i64 a1).wf = true) (w : World) :
    Calls Try.prog 3 #[.int .u64 a0, .int .i64 a1] w fun e w' => e = .returned (.bool true) ∧ Grown w w' := by
  by_cases hno : a1 < 1 ∨ 32768 < a1 ∨ bits .and .i64 a1 (a1 - 1) ≠ 0
  · exact law_no a0 a1 hno w
  · have hb : 0 ≤ a0 ∧ a0 ≤ 18446744073709551615 := by
      simpa [Lit.wf, IntKind.min, IntKind.max, IntKind.signed, IntKind.bits] using w0
    obtain ⟨h, rfl⟩ := Int.eq_ofNat_of_zero_le hb.1
    obtain ⟨n, rfl⟩ := Int.eq_ofNat_of_zero_le (show 0 ≤ a1 by omega)
    exact law_yes h n (by omega) (by omega) (by omega) (Decidable.byContradiction fun hc => hno (Or.inr (Or.inr hc))) w

/-! ### THE ROW's STEP: WRITTEN OUT: LEAVE IT -/
set_option maxRecDepth 100000 in
theorem lifted (os : Os) (started : os.Started) (H : Type) (enc : TypeId × Value → H) :
    ReturnsInHanded {} Try.checked os 3 .any (Rows.fnSlotAgreesAcrossDoubledTableSpec.pre6 enc Try.prog Try.f3 Rows.fnSlotAgreesAcrossDoubledTableRow.domain false) (Rows.fnSlotAgreesAcrossDoubledTableSpec.post enc Try.prog Try.f3 false true false false) := by
  refine returnsInHanded_of_change (C := Try.checked) own started (by kernel_rfl) Try.func3
    (ChangeSpec.witness6 (enc := enc) (C := Try.checked) false ⟨#[], #[.int .u64 0, .int .i64 0], []⟩ 8 (by kernel_rfl) (by kernel_rfl) (by kernel_rfl) (by kernel_rfl)) ?_
  intro W base args ds gs before hval0 hW hcnd _
  have hval : ∀ (j : Nat) t v, Try.f3.params[j]? = some t → args[j]? = some v → Value.okWide Try.prog W .any base t v := hval0
  have hW' := hW
  obtain ⟨p, q, hA0, hV, rfl, hfz, hnd⟩ := hW
  have hA : DataW.TrodAll enc Try.prog W 0 (fun _ => true) true Try.f3.params.toList args.toList ds p := hA0
  rw [Try.params3] at hA hval
  obtain ⟨v0, vs0, d0, ds0, p0, q0, hargs, rfl, rfl, h0, r0⟩ := trodAll_cons hA
  obtain ⟨v1, vs1, d1, ds1, p1, q1, rfl, rfl, rfl, h1, r1⟩ := trodAll_cons r0
  obtain ⟨rfl, rfl, rfl⟩ := trodAll_nil r1
  obtain rfl : args = #[v0, v1] := by cases args; simp_all
  obtain ⟨rfl, rfl⟩ := trodVars_none hV
  obtain ⟨a0, rfl, rfl, rfl, w0⟩ := open_int Try.underlying22 (hval 0 22 v0 rfl rfl) h0
  obtain ⟨a1, rfl, rfl, rfl, w1⟩ := open_int Try.underlying3 (hval 1 3 v1 rfl rfl) h1
  clear hA0 hval0
  simp only [List.append_nil] at hW'
  refine (walk a0 a1 w0 w1 W).mono fun e W' ⟨he, hg⟩ => ?_
  subst he
  exact ⟨_, rfl, post_of_same (pa := []) (pv := []) hW' (fun _ _ _ => (trodAll_cons_mk (shut_bool Try.underlying4 _) trodAll_mk0)) (fun sp _ => (trodAll_cons_mk (shut_int Try.underlying22 w0) (trodAll_cons_mk (shut_int Try.underlying3 w1) trodAll_mk0))) (fun _ _ => rfl) rfl
    (hg.frame _) hg.2.1 (ok_one (by kernel_rfl) rfl (okWide_bool_mk Try.underlying4 _))⟩

theorem over : Rows.fnSlotAgreesAcrossDoubledTableRow.holds Try.pinned (OpenSpec.ofChange Rows.fnSlotAgreesAcrossDoubledTableSpec) :=
  OpenClaim.holds_of_wide 3 Try.f3 rfl rfl rfl rfl rfl rfl rfl ⟨rfl, rfl, rfl, rfl, rfl⟩ rfl rfl rfl rfl rfl (by kernel_rfl) Try.func3 (by kernel_rfl)
    (of_decide_eq_true (by kernel_rfl)) (by unfold Func.isWrapper; first | (rw [if_pos (by decide +kernel)]; kernel_rfl) | (rw [if_neg (by decide +kernel)]; exact ⟨rfl, rfl⟩))
    (fun os started H enc _ => lifted os started H enc)

/-- ████ THE STATEMENT ████ -/
theorem proved : Rows.FnSlotAgreesAcrossDoubledTableSaid :=
  over
#print axioms proved
end Go.Proofs.Qxb6613902a.fnSlotAgreesAcrossDoubledTable

namespace Go.Proofs.Qxb6613902a
theorem fnSlotAgreesAcrossDoubledTable_proved : Rows.FnSlotAgreesAcrossDoubledTableSaid := fnSlotAgreesAcrossDoubledTable.proved
end Go.Proofs.Qxb6613902a
