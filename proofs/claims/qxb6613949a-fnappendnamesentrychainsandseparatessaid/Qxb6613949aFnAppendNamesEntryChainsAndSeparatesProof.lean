/-
  THE PROOF OF 'Rows.FnAppendNamesEntryChainsAndSeparatesSaid'. The frame is the guide's shell for this function; the walk is ours.
-/
import Derived.Test.Qxb6613949aRows
import Derived.Test.Qxb6613949aMain
import Derived.WalkKit
import Derived.ProofKit
import Derived.OpenShut
import Derived.ShutString
import Derived.ChangeOld
import Derived.Below
namespace Go.Proofs.Qxb6613949a.fnAppendNamesEntryChainsAndSeparates
open Go.ChangeShapes Go.WideShapes Go.ChangeAt Go.RowKit
open Go.ChangeMaps (open_string shut_string)
set_option linter.unusedVariables false

theorem own : ownKnob Try.prog.godebug = none := by kernel_rfl
theorem laidOut : laidOutB Try.prog = true := by kernel_rfl

/-- WHAT THE WALK IS TOLD OF A SLICE OF INTEGERS THAT CAME IN: it is nil; or it leads to a row of 'cap' cells, the numbers 'zs' (the first 'len' are its elements, the rest its spare room), each fitting its kind. -/
def IsRow (k : IntKind) (w : World) (a : Option Addr) (len cap : Nat) (zs : List Int) : Prop :=
  (a = none ∧ len = 0 ∧ cap = 0 ∧ zs = []) ∨
  ∃ x, a = some x ∧ len ≤ cap ∧ cap ≤ maxLen ∧ zs.length = cap ∧ (∀ i, i < zs.length → w.cell? (x.add i) = some (.int k (zs.getD i 0))) ∧ ∀ n ∈ zs, (Lit.int k n).wf = true

/-! ### STEP 1: THE WALK -/
/-- The numbers of the row as bytes. -/
theorem came_of (w : World) (a0 : Option Addr) (len0 cap0 : Nat) (z0 : List Int) (w0 : IsRow .u8 w a0 len0 cap0 z0) :
    ∃ l : List UInt8, l.length = len0 ∧ Came w (.slice a0 len0 cap0) l := by
  rcases w0 with ⟨rfl, rfl, rfl, rfl⟩ | ⟨x, rfl, hl, hm, hz, hc, hwf⟩
  · exact ⟨[], rfl, .inl ⟨rfl, rfl⟩⟩
  · refine ⟨(z0.take len0).map fun z => UInt8.ofNat z.toNat, by simp; omega, .inr ⟨x, cap0, by congr 1; simp; omega, ?_⟩⟩
    intro j u hj
    have hlt : j < len0 := by
      have := (List.getElem?_eq_some_iff.1 hj).1
      rw [bc_length, List.length_map, List.length_take] at this
      omega
    have hjz : j < z0.length := by omega
    have hw := hwf z0[j] (List.getElem_mem hjz)
    have hb : 0 ≤ z0[j] ∧ z0[j] ≤ 255 := by
      simpa [Lit.wf, IntKind.min, IntKind.max, IntKind.signed, IntKind.bits] using hw
    rw [hc j hjz]
    have e1 : z0.getD j 0 = z0[j] := by simp [hjz]
    have e2 : u = .int .u8 (((UInt8.ofNat z0[j].toNat).toNat : Nat) : Int) := by
      simp only [bc, List.map_map, List.getElem?_map, List.getElem?_take, if_pos hlt, List.getElem?_eq_getElem hjz, Option.map_some, Option.some.injEq] at hj
      exact hj.symm
    rw [e1, e2, ofNat_toNat _ (by omega), Int.toNat_of_nonneg hb.1]

theorem law_no (w : World) (o : Option Addr) (n c : Nat) (f s : ByteArray) (hsz : ¬ n + f.size + s.size ≤ 1048576) (hn : n ≤ maxLen) (hf : f.size ≤ maxLen) (hs : s.size ≤ maxLen) :
    Calls Try.prog 4 #[.slice o n c, .string f, .string s] w fun e w' => e = .returned (.bool true) ∧ Below w.heap.size w w' := by
  go_enter Try.func4, Try.ntmps4
  go_wp2_with fail
  refine (bytes7_no o n c f s hsz hn hf hs _).mono ?_
  rintro e w' ⟨rfl, rfl⟩
  go_wp2_with fail
  go_ret
  exact ⟨rfl, Below.refl _ _⟩

theorem walk (a0 : Option Addr) (len0 cap0 : Nat) (z0 : List Int) (a1 : ByteArray) (a2 : ByteArray) (w : World) (w0 : IsRow .u8 w a0 len0 cap0 z0) (w1 : a1.size ≤ maxLen) (w2 : a2.size ≤ maxLen) :
    Calls Try.prog 4 #[.slice a0 len0 cap0, .string a1, .string a2] w fun e w' => e = .returned (.bool true) ∧ Below w.heap.size w w' := by
  obtain ⟨l, hl, hc⟩ := came_of w a0 len0 cap0 z0 w0
  subst hl
  by_cases hsz : l.length + a1.size + a2.size ≤ 1048576
  · exact law_yes w a0 cap0 l a1 a2 hsz hc
  · refine law_no w a0 l.length cap0 a1 a2 hsz ?_ w1 w2
    rcases w0 with ⟨_, h, _⟩ | ⟨x, _, h1, h2, _⟩
    · rw [h]; exact Nat.zero_le _
    · exact Nat.le_trans h1 h2

/-! ### THE ROW's STEP: WRITTEN OUT: LEAVE IT -/
set_option maxRecDepth 100000 in
theorem lifted (os : Os) (started : os.Started) (H : Type) (enc : TypeId × Value → H) :
    ReturnsInHanded {} Try.checked os 4 .any (Rows.fnAppendNamesEntryChainsAndSeparatesSpec.pre6 enc Try.prog Try.f4 Rows.fnAppendNamesEntryChainsAndSeparatesRow.domain false) (Rows.fnAppendNamesEntryChainsAndSeparatesSpec.post enc Try.prog Try.f4 false true false false) := by
  refine returnsInHanded_of_change (C := Try.checked) own started (by kernel_rfl) Try.func4
    (ChangeSpec.witness6 (enc := enc) (C := Try.checked) false ⟨#[], #[.slice none 0 0, .string ByteArray.empty, .string ByteArray.empty], []⟩ 8 (by kernel_rfl) (by kernel_rfl) (by kernel_rfl) (by kernel_rfl)) ?_
  intro W base args ds gs before hval0 hW hcnd _
  have hval : ∀ (j : Nat) t v, Try.f4.params[j]? = some t → args[j]? = some v → Value.okWide Try.prog W .any base t v := hval0
  have hW' := hW
  obtain ⟨p, q, hA0, hV, rfl, hfz, hnd⟩ := hW
  have hA : DataW.TrodAll enc Try.prog W 0 (fun _ => true) true Try.f4.params.toList args.toList ds p := hA0
  rw [Try.params4] at hA hval
  obtain ⟨v0, vs0, d0, ds0, p0, q0, hargs, rfl, rfl, h0, r0⟩ := trodAll_cons hA
  obtain ⟨v1, vs1, d1, ds1, p1, q1, rfl, rfl, rfl, h1, r1⟩ := trodAll_cons r0
  obtain ⟨v2, vs2, d2, ds2, p2, q2, rfl, rfl, rfl, h2, r2⟩ := trodAll_cons r1
  obtain ⟨rfl, rfl, rfl⟩ := trodAll_nil r2
  obtain rfl : args = #[v0, v1, v2] := by cases args; simp_all
  obtain ⟨rfl, rfl⟩ := trodVars_none hV
  obtain ⟨a0, len0, cap0, rfl⟩ := okWide_slice Try.underlying24 (hval 0 24 v0 rfl rfl)
  have k0 := h0
  have lt0 : ∀ x ∈ p0, x.block < W.heap.size := by obtain ⟨m, hm⟩ := k0; exact DataW.trod_lt m _ _ _ hm
  obtain ⟨z0, w0⟩ : ∃ zs, IsRow .u8 W a0 len0 cap0 zs := by
    obtain ⟨fuel, hf⟩ := h0
    rcases open_ints Try.underlying24 Try.underlying5 (by kernel_rfl) hf with ⟨hcs, _⟩ | ⟨x, l, c, zs, hcs, _, hl, hm, hz, _, hcell, hwz⟩
    · simp [Value.cells] at hcs
      obtain ⟨rfl, rfl, rfl⟩ := hcs
      exact ⟨[], .inl ⟨rfl, rfl, rfl, rfl⟩⟩
    · simp [Value.cells] at hcs
      obtain ⟨rfl, rfl, rfl⟩ := hcs
      exact ⟨zs, .inr ⟨_, rfl, hl, hm, by simpa using hz, hcell, hwz⟩⟩
  obtain ⟨a1, rfl, rfl, rfl, w1⟩ := open_string Try.underlying9 (hval 1 9 v1 rfl rfl) h1
  obtain ⟨a2, rfl, rfl, rfl, w2⟩ := open_string Try.underlying9 (hval 2 9 v2 rfl rfl) h2
  clear hA0 hval0
  refine (walk a0 len0 cap0 z0 a1 a2 W w0 w1 w2).mono fun e W' ⟨he, bel⟩ => ?_
  subst he
  exact ⟨_, rfl, _, _, _, [], _, [], hW', trodAll_mk1 (shut_bool Try.underlying4 _), (trodAll_cons_mk (Below.trod laidOut (by kernel_rfl) (of_decide_eq_true (by kernel_rfl)) k0 bel lt0) (trodAll_cons_mk (shut_string Try.underlying9 w1) (trodAll_cons_mk (shut_string Try.underlying9 w2) trodAll_mk0))), rfl, bel.frame _, fun h => by cases h⟩

theorem over : Rows.fnAppendNamesEntryChainsAndSeparatesRow.holds Try.pinned (OpenSpec.ofChange Rows.fnAppendNamesEntryChainsAndSeparatesSpec) :=
  OpenClaim.holds_of_wide 4 Try.f4 rfl rfl rfl rfl rfl rfl rfl ⟨rfl, rfl, rfl, rfl, rfl⟩ rfl rfl rfl rfl rfl (by kernel_rfl) Try.func4 (by kernel_rfl)
    (of_decide_eq_true (by kernel_rfl)) (by unfold Func.isWrapper; first | (rw [if_pos (by decide +kernel)]; kernel_rfl) | (rw [if_neg (by decide +kernel)]; exact ⟨rfl, rfl⟩))
    (fun os started H enc _ => lifted os started H enc)

/-- ████ THE STATEMENT ████ -/
theorem proved : Rows.FnAppendNamesEntryChainsAndSeparatesSaid := over
#print axioms proved
end Go.Proofs.Qxb6613949a.fnAppendNamesEntryChainsAndSeparates

namespace Go.Proofs.Qxb6613949a
theorem fnAppendNamesEntryChainsAndSeparates_proved : Rows.FnAppendNamesEntryChainsAndSeparatesSaid := fnAppendNamesEntryChainsAndSeparates.proved
end Go.Proofs.Qxb6613949a
