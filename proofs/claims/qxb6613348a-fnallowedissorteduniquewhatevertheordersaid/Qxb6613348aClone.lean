/-
  THE WALK OF 'b1Clone'.
-/
import Derived.Test.Qxb6613348aSums
import Derived.Lib.SliceRun
namespace Go.Proofs.Qxb6613348a
open Go.ChangeShapes Go.WideShapes Go.ChangeAt Go.RowKit Own

theorem info9 : (Try.prog.info? 9).map (fun i => (i.zero, i.size, i.bytes)) = some (some (.string ⟨#[]⟩), 1, 16) := by kernel_rfl

theorem nil22 (w : World) (a : Option Addr) (n c : Nat) : (binOp .eql 22 (.slice a n c) (.slice none 0 0)).run Try.prog w = .ok (.bool a.isNone) w :=
  Go.Lib.run_eql_slice_nil w 22 9 a n c 0 0 Try.underlying22

theorem clone_nil (w : World) (n c : Nat) : Calls Try.prog 7 #[.slice none n c] w fun e w' => e = .returned (.slice none 0 0) ∧ w' = w := by
  have hn := nil22
  go_enter Try.func7, Try.ntmps7
  go_wp2
  go_ret
  exact ⟨rfl, rfl⟩

/-- The first k strings copied, the rest still empty. -/
def pc (l : List (List UInt8)) (k : Nat) : List Value := (l.take k).map encStr ++ List.replicate (l.length - k) (.string ⟨#[]⟩)
theorem pc_zero (l : List (List UInt8)) : pc l 0 = List.replicate l.length (.string ⟨#[]⟩) := by simp [pc]
theorem pc_end (l : List (List UInt8)) : pc l l.length = l.map encStr := by simp [pc]
theorem pc_step (l : List (List UInt8)) (k : Nat) (h : k < l.length) : (pc l k).set k (encStr l[k]) = pc l (k + 1) := by
  unfold pc
  have hk : ((l.take k).map encStr).length = k := by rw [List.length_map, List.length_take]; omega
  rw [List.set_append_right _ _ (by omega), hk, Nat.sub_self, show l.length - k = (l.length - (k + 1)) + 1 by omega, List.replicate_succ, List.set_cons_zero,
    List.take_succ_eq_append_getElem h, List.map_append, List.append_assoc]
  rfl

/-- A store into a block that is new: still only new blocks. -/
theorem grown_store {w w1 w2 : World} {g : Nat} (h : w.grownBy w1 none) (hg : w.heap.size ≤ g) (h2 : w1.grownBy w2 (some g)) : w.grownBy w2 none :=
  grown_trans h h2 (fun j e => by cases e; exact hg)

set_option maxHeartbeats 1000000 in
theorem clone_some (w : World) (x : Addr) (c : Nat) (l : List (List UInt8)) (hn : l.length ≤ 1048576) (hc : Reads w (some x) l) :
    Calls Try.prog 7 #[.slice (some x) l.length c] w fun e w' => ∃ v, e = .returned v ∧ w'.ownsRow w.heap.size 9 1 v l.length (l.map encStr) ∧ w.grownBy w' none := by
  obtain ⟨i0, hi, hz0, hz1, hz2⟩ := info_parts info9
  have hn' := nil22
  go_enter Try.func7, Try.ntmps7
  go_wp2_with (refine wpList_make_full _ rfl (.tmp 8) (.tmp 8) 22 rfl w.heap.size 9 i0 (.string ⟨#[]⟩) 1 Try.underlying22 hi hz0 hz1 .i64 .i64 (l.length : Int) (l.length : Int) l.length rfl rfl rfl rfl (by rw [hz2]; omega) (by unfold maxLen; omega) (Nat.le_refl _) ?_; intro w1 h1 h2)
  have h1' : w1.ownsRow w.heap.size 9 1 (Value.slice (some { block := w.heap.size, off := 0 }) l.length l.length) l.length (pc l 0) := by
    rw [pc_zero, ← toList_madeCells_one]; rw [Nat.mul_one] at h1; exact h1
  clear h1 hn'
  go_loopw [4] (fun i wr => ∃ k : Nat, k ≤ l.length ∧ i = .int .i64 (k : Int) ∧ wr.ownsRow w.heap.size 9 1 (.slice (some ⟨w.heap.size, 0, none⟩) l.length l.length) l.length (pc l k) ∧ w.grownBy wr none)
    (fun i _ => l.length - (intOf i).toNat)
  case atStart => exact ⟨0, Nat.zero_le _, rfl, h1', h2⟩
  case round =>
    obtain ⟨k, hk, rfl, ho, hg⟩ := hrel
    by_cases hlt : k < l.length
    · obtain ⟨x', hx', hcell0⟩ := hc k l[k] (List.getElem?_eq_getElem hlt)
      cases hx'
      have hcell : wr.cell? (x.add k) = some (encStr l[k]) := hg.cell hcell0 (by simp)
      have hfz := ho.frozenAt k
      have hst := ho.stored k (encStr l[k])
      obtain ⟨q, hq⟩ : ∃ q, wr.cell? ⟨w.heap.size, k, none⟩ = some q := by
        refine ⟨(pc l k)[k]'(by rw [ho.1]; omega), ?_⟩
        rw [ho.cellAt k (by omega)]
        exact List.getElem?_eq_getElem _
      rw [pc_step l k hlt] at hst
      obtain ⟨hs1, hs2⟩ := hst
      have hg2 := grown_store hg (Nat.le_refl _) hs2
      clear hs2 ho hg hcell0
      go_wp2
      go_roundw
      case rel => exact ⟨k + 1, by omega, by go_num, hs1, hg2⟩
      case measure => simp [intOf]; omega
    · obtain rfl : k = l.length := by omega
      rw [pc_end] at ho
      go_wp2
      go_ret
      exact ⟨_, rfl, ho, hg⟩

/-- 'b1Clone' of a slice that reads as l: a new row that owns l (or nil). -/
theorem clone (w : World) (o : Option Addr) (c : Nat) (l : List (List UInt8)) (hn : l.length ≤ 1048576) (hr : Reads w o l) :
    Calls Try.prog 7 #[.slice o l.length c] w fun e w' => ∃ v, e = .returned v ∧ w'.ownsRow w.heap.size 9 1 v l.length (l.map encStr) ∧ w.grownBy w' none := by
  cases o with
  | none =>
    have hl : l = [] := by
      cases l with
      | nil => rfl
      | cons s r => obtain ⟨x, hx, _⟩ := hr 0 s rfl; cases hx
    subst hl
    refine (clone_nil w _ c).mono ?_
    rintro e w' ⟨rfl, rfl⟩
    exact ⟨_, rfl, World.ownsRow_nil _ _ _ _, grownBy_refl _ _⟩
  | some x => exact clone_some w x c l hn hr
end Go.Proofs.Qxb6613348a
