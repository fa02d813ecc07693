/-
  THE PROOF OF 'Rows.FnAllowedIsSortedUniqueWhateverTheOrderSaid'. The frame goes after the guide's shells for laws over slices, at a slice of strings; the walks are ours.
-/
import Derived.Test.Qxb6613348aRows
import Derived.Test.Qxb6613348aLawOne
import Derived.WalkKit
import Derived.ProofKit
import Derived.OpenShut
import Derived.ShutString
import Derived.ChangeOld
import Derived.Below
import Derived.SliceStrings
namespace Go.Proofs.Qxb6613348a.fnAllowedIsSortedUniqueWhateverTheOrder
open Go.ChangeShapes Go.WideShapes Go.ChangeAt Go.RowKit
open Go.ChangeMaps (open_string shut_string)
open Go.Proofs.Qxb6613348a.Own
set_option linter.unusedVariables false

theorem own : ownKnob Try.prog.godebug = none := by kernel_rfl
theorem laidOut : laidOutB Try.prog = true := by kernel_rfl

/-- What the walk is told of a slice of strings that came in: its elements, and that their cells lie where it leads. -/
def IsStrs (w : World) (a : Option Addr) (len : Nat) (ns : List (List UInt8)) : Prop :=
  ns.length = len ∧ len ≤ maxLen ∧ (∀ s ∈ ns, s.length ≤ maxLen) ∧ Reads w a ns

/-! ### STEP 1: THE WALK -/
theorem law_big (w : World) (o : Option Addr) (c : Nat) (ns : List (List UInt8)) (hm : ns.length ≤ maxLen) (hs : ∀ s ∈ ns, s.length ≤ maxLen) (hr : Reads w o ns) (hb : ¬ ns.length + tot ns ≤ 1048576) :
    Calls Try.prog 3 #[.slice o ns.length c] w fun e w' => e = .returned (.bool true) ∧ w.grownBy w' none := by
  have hz := zzBytes5 w o c ns hm hs hr
  rw [decide_eq_false hb] at hz
  have HZ : Hid (Calls Try.prog 5 #[.slice o ns.length c] w fun e w' => e = .returned (.bool false) ∧ w' = w) := hz
  clear hz
  go_enter Try.func3, Try.ntmps3
  go_wp2_with fail
  refine HZ.out.mono ?_
  rintro e w' ⟨rfl, rfl⟩
  go_wp2_with fail
  go_ret
  exact ⟨rfl, grownBy_refl _ _⟩

theorem law_many (w : World) (o : Option Addr) (c : Nat) (ns : List (List UInt8)) (hm : ns.length ≤ maxLen) (hs : ∀ s ∈ ns, s.length ≤ maxLen) (hr : Reads w o ns) (hb : ns.length + tot ns ≤ 1048576) (hn : ¬ ns.length ≤ 4096) :
    Calls Try.prog 3 #[.slice o ns.length c] w fun e w' => e = .returned (.bool true) ∧ w.grownBy w' none := by
  have hz := zzBytes5 w o c ns hm hs hr
  rw [decide_eq_true hb] at hz
  have HZ : Hid (Calls Try.prog 5 #[.slice o ns.length c] w fun e w' => e = .returned (.bool true) ∧ w' = w) := hz
  clear hz
  go_enter Try.func3, Try.ntmps3
  go_wp2_with fail
  refine HZ.out.mono ?_
  rintro e w' ⟨rfl, rfl⟩
  go_wp2_with fail
  go_ret
  exact ⟨rfl, grownBy_refl _ _⟩

theorem walk (a0 : Option Addr) (len0 cap0 : Nat) (ns : List (List UInt8)) (w : World) (w0 : IsStrs w a0 len0 ns) :
    Calls Try.prog 3 #[.slice a0 len0 cap0] w fun e w' => e = .returned (.bool true) ∧ Below w.heap.size w w' := by
  obtain ⟨hl, hm, hs, hr⟩ := w0
  subst hl
  have key : Calls Try.prog 3 #[.slice a0 ns.length cap0] w fun e w' => e = .returned (.bool true) ∧ w.grownBy w' none := by
    by_cases hb : ns.length + tot ns ≤ 1048576
    · by_cases hn : ns.length ≤ 4096
      · exact one_yes w a0 cap0 ns hn hb hs hr
      · exact law_many w a0 cap0 ns hm hs hr hb hn
    · exact law_big w a0 cap0 ns hm hs hr hb
  exact key.mono fun e w' ⟨h1, h2⟩ => ⟨h1, grown_below h2⟩

/-! ### THE ROW's STEP -/
theorem str_back (s : ByteArray) : encStr s.data.toList = .string s := by
  show Value.string ⟨s.data.toList.toArray⟩ = _
  rw [Array.toArray_toList]

set_option maxRecDepth 100000 in
theorem lifted (os : Os) (started : os.Started) (H : Type) (enc : TypeId × Value → H) :
    ReturnsInHanded {} Try.checked os 3 .any (Rows.fnAllowedIsSortedUniqueWhateverTheOrderSpec.pre6 enc Try.prog Try.f3 Rows.fnAllowedIsSortedUniqueWhateverTheOrderRow.domain false) (Rows.fnAllowedIsSortedUniqueWhateverTheOrderSpec.post enc Try.prog Try.f3 false true false false) := by
  refine returnsInHanded_of_change (C := Try.checked) own started (by kernel_rfl) Try.func3
    (ChangeSpec.witness6 (enc := enc) (C := Try.checked) false ⟨#[], #[.slice none 0 0], []⟩ 8 (by kernel_rfl) (by kernel_rfl) (by kernel_rfl) (by kernel_rfl)) ?_
  intro W base args ds gs before hval0 hW hcnd _
  have hval : ∀ (j : Nat) t v, Try.f3.params[j]? = some t → args[j]? = some v → Value.okWide Try.prog W .any base t v := hval0
  have hW' := hW
  obtain ⟨p, q, hA0, hV, rfl, hfz, hnd⟩ := hW
  have hA : DataW.TrodAll enc Try.prog W 0 (fun _ => true) true Try.f3.params.toList args.toList ds p := hA0
  rw [Try.params3] at hA hval
  obtain ⟨v0, vs0, d0, ds0, p0, q0, hargs, rfl, rfl, h0, r0⟩ := trodAll_cons hA
  obtain ⟨rfl, rfl, rfl⟩ := trodAll_nil r0
  obtain rfl : args = #[v0] := by cases args; simp_all
  obtain ⟨rfl, rfl⟩ := trodVars_none hV
  obtain ⟨a0, len0, cap0, rfl⟩ := okWide_slice Try.underlying22 (hval 0 22 v0 rfl rfl)
  have k0 := h0
  have lt0 : ∀ x ∈ p0, x.block < W.heap.size := by obtain ⟨m, hm⟩ := k0; exact DataW.trod_lt m _ _ _ hm
  obtain ⟨ns, w0⟩ : ∃ ns, IsStrs W a0 len0 ns := by
    obtain ⟨fuel, hf⟩ := h0
    rcases open_strings Try.underlying22 Try.underlying9 (by kernel_rfl) hf with ⟨hcs, _⟩ | ⟨x, l, c, ss, hcs, _, hl, hm, hz, _, hcell, hwz⟩
    · simp [Value.cells] at hcs
      obtain ⟨rfl, rfl, rfl⟩ := hcs
      exact ⟨[], rfl, Nat.zero_le _, fun s hs => (by cases hs), fun j s hj => (by simp at hj)⟩
    · simp [Value.cells] at hcs
      obtain ⟨rfl, rfl, rfl⟩ := hcs
      have hz' : ss.length = cap0 := by simpa using hz
      refine ⟨(ss.take len0).map (·.data.toList), by simp; omega, Nat.le_trans hl hm, fun s hs => ?_, fun j s hj => ?_⟩
      · obtain ⟨b, hb, rfl⟩ := List.mem_map.1 hs
        exact hwz b (List.mem_of_mem_take hb)
      · rw [List.getElem?_map] at hj
        obtain ⟨b, hb, rfl⟩ := Option.map_eq_some_iff.1 hj
        have hb2 : ss[j]? = some b := by
          rw [List.getElem?_take] at hb
          split at hb
          · exact hb
          · cases hb
        have hjl : j < ss.length := (List.getElem?_eq_some_iff.1 hb2).1
        refine ⟨x, rfl, ?_⟩
        rw [hcell j hjl, str_back, List.getD_eq_getElem?_getD, hb2]
        rfl
  clear hA0 hval0
  refine (walk a0 len0 cap0 ns W w0).mono fun e W' ⟨he, bel⟩ => ?_
  subst he
  exact ⟨_, rfl, _, _, _, [], _, [], hW', trodAll_mk1 (shut_bool Try.underlying4 _), (trodAll_cons_mk (Below.trod laidOut (by kernel_rfl) (of_decide_eq_true (by kernel_rfl)) k0 bel lt0) trodAll_mk0), rfl, bel.frame _, fun h => by cases h⟩

theorem over : Rows.fnAllowedIsSortedUniqueWhateverTheOrderRow.holds Try.pinned (OpenSpec.ofChange Rows.fnAllowedIsSortedUniqueWhateverTheOrderSpec) :=
  OpenClaim.holds_of_wide 3 Try.f3 rfl rfl rfl rfl rfl rfl rfl ⟨rfl, rfl, rfl, rfl, rfl⟩ rfl rfl rfl rfl rfl (by kernel_rfl) Try.func3 (by kernel_rfl)
    (of_decide_eq_true (by kernel_rfl)) (by unfold Func.isWrapper; first | (rw [if_pos (by decide +kernel)]; kernel_rfl) | (rw [if_neg (by decide +kernel)]; exact ⟨rfl, rfl⟩))
    (fun os started H enc _ => lifted os started H enc)

/-- ████ THE STATEMENT ████ -/
theorem proved : Rows.FnAllowedIsSortedUniqueWhateverTheOrderSaid := over
#print axioms proved
end Go.Proofs.Qxb6613348a.fnAllowedIsSortedUniqueWhateverTheOrder

namespace Go.Proofs.Qxb6613348a
theorem fnAllowedIsSortedUniqueWhateverTheOrder_proved : Rows.FnAllowedIsSortedUniqueWhateverTheOrderSaid := fnAllowedIsSortedUniqueWhateverTheOrder.proved
end Go.Proofs.Qxb6613348a
