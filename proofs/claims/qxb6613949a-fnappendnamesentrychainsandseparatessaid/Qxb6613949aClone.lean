/-
  THE WALK OF 'zzCloneBytes'.
-/
import Derived.Test.Qxb6613949aEntry
import Derived.Lib.SliceRun
namespace Go.Proofs.Qxb6613949a
open Go.ChangeShapes Go.WideShapes Go.ChangeAt Go.RowKit Own

theorem nil24 (w : World) (a : Option Addr) (n c : Nat) : (binOp .eql 24 (.slice a n c) (.slice none 0 0)).run Try.prog w = .ok (.bool a.isNone) w :=
  Go.Lib.run_eql_slice_nil w 24 5 a n c 0 0 Try.underlying24

theorem clone_nil (w : World) : Calls Try.prog 8 #[.slice none 0 0] w fun e w' => e = .returned (.slice none 0 0) ∧ w' = w := by
  have hn := nil24
  go_enter Try.func8, Try.ntmps8
  go_wp2
  go_ret
  exact ⟨rfl, rfl⟩

/-- The first k bytes copied, the rest still zero. -/
def pc (l : List UInt8) (k : Nat) : List Value := bc (l.take k) ++ List.replicate (l.length - k) (.int .u8 0)
theorem pc_zero (l : List UInt8) : pc l 0 = List.replicate l.length (.int .u8 0) := by simp [pc, bc]
theorem pc_end (l : List UInt8) : pc l l.length = bc l := by simp [pc]
theorem pc_step (l : List UInt8) (k : Nat) (h : k < l.length) : (pc l k).set k (.int .u8 ((l[k].toNat : Nat) : Int)) = pc l (k + 1) := by
  unfold pc
  have hk : (bc (l.take k)).length = k := by rw [bc_length, List.length_take]; omega
  rw [List.set_append_right _ _ (by omega), hk, Nat.sub_self, show l.length - k = (l.length - (k + 1)) + 1 by omega, List.replicate_succ, List.set_cons_zero,
    List.take_succ_eq_append_getElem h, bc_append, List.append_assoc]
  rfl
theorem bc_getElem? (l : List UInt8) (k : Nat) (h : k < l.length) : (bc l)[k]? = some (.int .u8 ((l[k].toNat : Nat) : Int)) := by
  simp [bc, h]

/-- A store into a block that is new: still only new blocks. -/
theorem grown_store {w w1 w2 : World} {g : Nat} (h : w.grownBy w1 none) (hg : w.heap.size ≤ g) (h2 : w1.grownBy w2 (some g)) : w.grownBy w2 none :=
  ⟨h2.os.trans h.os, h2.tape.trans h.tape, h2.output.trans h.output, Nat.le_trans h.size h2.size, fun k hk hne => by
    rw [h2.block k (Nat.lt_of_lt_of_le hk h.size) (by simp; omega), h.block k hk hne]⟩

set_option maxHeartbeats 1000000 in
theorem clone_some (w : World) (x : Addr) (n c : Nat) (l : List UInt8) (hl : l.length = n) (hn : n ≤ 1048576) (hc : ∀ j u, (bc l)[j]? = some u → w.cell? (x.add j) = some u) :
    Calls Try.prog 8 #[.slice (some x) n c] w fun e w' => ∃ v, e = .returned v ∧ w'.ownsRow w.heap.size 5 1 v n (bc l) ∧ w.grownBy w' none := by
  obtain ⟨i0, hi, hz0, hz1, hz2⟩ := info_parts info5
  have hn' := nil24
  subst hl
  go_enter Try.func8, Try.ntmps8
  go_wp2_with (refine wpList_make_full _ rfl (.tmp 8) (.tmp 8) 24 rfl w.heap.size 5 i0 (.int .u8 0) 1 Try.underlying24 hi hz0 hz1 .i64 .i64 (l.length : Int) (l.length : Int) l.length rfl rfl rfl rfl (by rw [hz2]; omega) (by unfold maxLen; omega) (Nat.le_refl _) ?_; intro w1 h1 h2)
  have h1' : w1.ownsRow w.heap.size 5 1 (Value.slice (some { block := w.heap.size, off := 0 }) l.length l.length) l.length (pc l 0) := by
    rw [pc_zero, ← toList_madeCells_one]; rw [Nat.mul_one] at h1; exact h1
  clear h1 hn'
  go_loopw [4] (fun i wr => ∃ k : Nat, k ≤ l.length ∧ i = .int .i64 (k : Int) ∧ wr.ownsRow w.heap.size 5 1 (.slice (some ⟨w.heap.size, 0, none⟩) l.length l.length) l.length (pc l k) ∧ w.grownBy wr none)
    (fun i _ => l.length - (intOf i).toNat)
  case atStart => exact ⟨0, Nat.zero_le _, rfl, h1', h2⟩
  case round =>
    obtain ⟨k, hk, rfl, ho, hg⟩ := hrel
    by_cases hlt : k < l.length
    · have hcell : wr.cell? (x.add k) = some (.int .u8 ((l[k].toNat : Nat) : Int)) := hg.cell (hc k _ (bc_getElem? l k hlt)) (by simp)
      have hfz := ho.frozenAt k
      have hst := ho.stored k (.int .u8 ((l[k].toNat : Nat) : Int))
      obtain ⟨q, hq⟩ : ∃ q, wr.cell? ⟨w.heap.size, k, none⟩ = some q := by
        refine ⟨(pc l k)[k]'(by rw [ho.1]; omega), ?_⟩
        rw [ho.cellAt k (by omega)]
        exact List.getElem?_eq_getElem _
      rw [pc_step l k hlt] at hst
      obtain ⟨hs1, hs2⟩ := hst
      have hg2 := grown_store hg (Nat.le_refl _) hs2
      clear hs2 ho hg
      go_wp2
      go_roundw
      case rel => exact ⟨k + 1, by omega, by go_num, hs1, hg2⟩
      case measure => simp [intOf]; omega
    · obtain rfl : k = l.length := by omega
      rw [pc_end] at ho
      go_wp2
      go_ret
      exact ⟨_, rfl, ho, hg⟩

/-- 'zzCloneBytes' of a row that the call owns. -/
theorem clone_own (w : World) (base : Nat) (v : Value) (l : List UInt8) (hn : l.length ≤ 1048576) (ho : w.ownsRow base 5 1 v l.length (bc l)) :
    Calls Try.prog 8 #[v] w fun e w' => ∃ v', e = .returned v' ∧ w'.ownsRow w.heap.size 5 1 v' l.length (bc l) ∧ w.grownBy w' none := by
  rcases ho.2 with ⟨rfl, hz⟩ | ⟨g, cap, cur, rfl, _⟩
  · refine (clone_nil w).mono ?_
    rintro e w' ⟨rfl, rfl⟩
    have hl : l = [] := List.eq_nil_of_length_eq_zero hz
    subst hl
    exact ⟨_, rfl, World.ownsRow_nil _ _ _ _, grownBy_refl _ _⟩
  · exact clone_some w ⟨g, 0, none⟩ l.length cap l rfl hn (ho.cells (g := g) rfl)
end Go.Proofs.Qxb6613949a
