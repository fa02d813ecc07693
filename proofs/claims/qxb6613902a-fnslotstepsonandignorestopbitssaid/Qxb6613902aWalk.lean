/-
  THE WALKS OF 'ZZnewRowTable' AND 'ZZslot' (shared by both laws).
-/
import Derived.Test.Qxb6613902aRows
import Derived.Test.Qxb6613902aPlain
import Derived.WalkKit
import Derived.ProofKit
import Derived.Laws.MakeOwn
namespace Go.Proofs.Qxb6613902a
open Go.ChangeShapes Go.WideShapes Go.ChangeAt Go.RowKit

theorem make30 (k : Nat) (hk2 : k ≤ 65536) : ∃ c : Array Value, ∀ w : World, (Instr.makeSlice 30 (.int .i64 (k : Int)) (.int .i64 (k : Int))).run Try.prog w
    = .ok (.slice (some ⟨w.heap.size, 0, none⟩) k k) (w.alloc (.cells c 53)) := by
  have hq : (Try.prog.info? 53).map (fun i => (i.zero, i.bytes)) = some (some (.agg #[.int .u64 0, .int .i32 0]), 16) := by kernel_rfl
  obtain ⟨i, hi, hzb⟩ := Option.map_eq_some_iff.1 hq
  have hz : i.zero = some (.agg #[.int .u64 0, .int .i32 0]) := congrArg Prod.fst hzb
  have hb : i.bytes = 16 := congrArg Prod.snd hzb
  exact ⟨_, fun w => run_make w 30 53 i _ Try.underlying30 hi hz .i64 .i64 k k (by omega) (Int.le_refl _) (by rw [hb]; omega) (by omega)⟩

/-- A rowTable's zero value: some cells, at least one. -/
theorem zero33 : ∃ z : Array Value, z ≠ #[] ∧ ∀ w : World, (zeroValue 33).run Try.prog w = .ok (.agg z) w := by
  have hq : (Try.prog.info? 33).map (fun i => match i.zero with | some (.agg z) => decide (0 < z.size) | _ => false) = some true := by kernel_rfl
  obtain ⟨i, hi, hzb⟩ := Option.map_eq_some_iff.1 hq
  split at hzb
  · rename_i z hz
    refine ⟨z, ?_, fun w => ?_⟩
    · rintro rfl
      simp at hzb
    · simp [zeroValue, typeInfo, hi, hz]
  · cases hzb

/-- 'ZZnewRowTable(n)': two new blocks; the second's first cell holds a slice of n slots. -/
theorem new_walk (w : World) (n : Nat) (hn2 : n ≤ 65536) :
    Calls Try.prog 5 #[.int .i64 (n : Int)] w fun e w' => ∃ (c d : Array Value) (p : Option Addr), e = .returned (.pointer (some ⟨w.heap.size + 1, 0, none⟩)) ∧
      w' = (w.alloc (.cells c 53)).alloc (.cells d 33) ∧ d[0]? = some (.slice p n n) := by
  obtain ⟨c, hm⟩ := make30 n hn2
  obtain ⟨z, hz, hzr⟩ := zero33
  go_enter Try.func5, Try.ntmps5
  go_wp2_with fail
  go_ret
  refine ⟨c, z.setIfInBounds 0 (.slice (some ⟨w.heap.size, 0, none⟩) n n), some ⟨w.heap.size, 0, none⟩, rfl, rfl, ?_⟩
  rw [Array.getElem?_setIfInBounds_self_of_lt (Array.size_pos_iff.2 hz)]

theorem slot7 (w : World) (b : Nat) (p : Option Addr) (n c : Nat) (h : Nat) (hp : ∃ i, i ≤ 17 ∧ n = 2 ^ i) (hn1 : 1 ≤ n) (hn2 : n ≤ 65536)
    (hc : w.cell? ⟨b, 0, none⟩ = some (.slice p n c)) :
    Calls Try.prog 7 #[.pointer (some ⟨b, 0, none⟩), .int .u64 (h : Int)] w fun e w' => e = .returned (.int .i64 ((h % n : Nat) : Int)) ∧ w' = w := by
  have hs := Plain.slot_eq h n hp
  generalize h % n = r at *
  clear hp
  go_enter Try.func7, Try.ntmps7
  go_wp2
  go_ret
  exact ⟨rfl, rfl⟩

/-- 'ZZslot(t, hash)': the remainder of hash by the number of slots. -/
theorem slot_walk (w : World) (b : Nat) (p : Option Addr) (n c : Nat) (h : Nat) (hp : ∃ i, i ≤ 17 ∧ n = 2 ^ i) (hn1 : 1 ≤ n) (hn2 : n ≤ 65536)
    (hc : w.cell? ⟨b, 0, none⟩ = some (.slice p n c)) :
    Calls Try.prog 6 #[.pointer (some ⟨b, 0, none⟩), .int .u64 (h : Int)] w fun e w' => e = .returned (.int .i64 ((h % n : Nat) : Int)) ∧ w' = w := by
  go_enter Try.func6, Try.ntmps6
  go_wp2_with fail
  refine (slot7 w b p n c h hp hn1 hn2 hc).mono ?_
  rintro e w' ⟨rfl, rfl⟩
  go_wp2_with fail
  go_ret
  exact ⟨by simp, rfl⟩
end Go.Proofs.Qxb6613902a
