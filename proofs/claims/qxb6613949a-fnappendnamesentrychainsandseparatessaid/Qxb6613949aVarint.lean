/-
  THE WALK OF protowire.AppendVarint, for numbers below 2^21, onto a row of bytes that the call owns.
-/
import Derived.Test.Qxb6613949aRows
import Derived.Test.Qxb6613949aOwn
import Derived.Test.Qxb6613949aPlain
import Derived.WalkKit
import Derived.ProofKit
namespace Go.Proofs.Qxb6613949a
open Go.ChangeShapes Go.WideShapes Go.ChangeAt Go.RowKit Own

theorem info5 : (Try.prog.info? 5).map (fun i => (i.zero, i.size, i.bytes)) = some (some (.int .u8 0), 1, 1) := by kernel_rfl

theorem cells_new (w : World) (xs : List Value) (t : TypeId) : ∀ j u, xs[j]? = some u → (w.alloc (.cells xs.toArray t)).cell? ((⟨w.heap.size, 0, none⟩ : Addr).add j) = some u := by
  intro j u hj
  rw [Addr.add_lit]
  simp [go_sem, hj]

set_option maxHeartbeats 1000000 in
set_option maxRecDepth 100000 in
theorem varint1 (w : World) (base : Nat) (sl : Value) (l : List UInt8) (v : Nat) (hv : v < 128) (hl : l.length ≤ 4194304) (hb : base ≤ w.heap.size)
    (hown : w.ownsRow base 5 1 sl l.length (bc l)) :
    Calls Try.prog 22 #[sl, .int .u64 (v : Int)] w fun e w' => ∃ sl', e = .returned sl' ∧ w'.ownsRow base 5 1 sl' (l.length + 1) (bc l ++ [.int .u8 (v : Int)]) ∧ Step w w' sl sl' := by
  obtain ⟨i0, hi, hz0, hz1, hz2⟩ := info_parts info5
  go_enter Try.func22, Try.ntmps22
  go_wp2_with (at_builtin; refine wpList_append_strong _ rfl (.tmp 56) (.tmp 59) 24 rfl base 5 i0 (.int .u8 0) 1 1 Try.underlying24 hi hz0 hz1 hz2 rfl (by decide) sl l.length (bc l) rfl (hown.alloc _) ⟨w.heap.size, 0, none⟩ 1 1 [.int .u8 (v : Int)] rfl rfl (cells_new _ _ _) (by simp [Value.oneCell']) (by unfold maxLen; omega) (by omega) (by simp; omega) ?_; intro v' w1 hown1 hst)
  go_ret
  exact ⟨_, rfl, hown1, (Step.alloc _ _ _).trans hst⟩

set_option maxHeartbeats 1000000 in
set_option maxRecDepth 100000 in
theorem varint2 (w : World) (base : Nat) (sl : Value) (l : List UInt8) (v : Nat) (hv : 128 ≤ v) (hv2 : v < 16384) (hl : l.length ≤ 4194304) (hb : base ≤ w.heap.size)
    (hown : w.ownsRow base 5 1 sl l.length (bc l)) :
    Calls Try.prog 22 #[sl, .int .u64 (v : Int)] w fun e w' => ∃ sl', e = .returned sl' ∧ w'.ownsRow base 5 1 sl' (l.length + 2) (bc l ++ [.int .u8 ((v : Int) % 128 + 128), .int .u8 ((v : Int) / 128)]) ∧ Step w w' sl sl' := by
  obtain ⟨i0, hi, hz0, hz1, hz2⟩ := info_parts info5
  have b0 := u64_and127 (v : Int) (by omega) (by omega)
  have b1 := u64_or128 ((v : Int) % 128) (by omega) (by omega)
  have b2 : ((v : Int) % 128 + 128) % 256 = (v : Int) % 128 + 128 := by omega
  go_enter Try.func22, Try.ntmps22
  go_wp2_with (at_builtin; refine wpList_append_strong _ rfl (.tmp 64) (.tmp 73) 24 rfl base 5 i0 (.int .u8 0) 1 1 Try.underlying24 hi hz0 hz1 hz2 rfl (by decide) sl l.length (bc l) rfl (hown.alloc _) ⟨w.heap.size, 0, none⟩ 2 2 [.int .u8 ((v : Int) % 128 + 128), .int .u8 ((v : Int) / 128)] rfl rfl (cells_new _ _ _) (by simp [Value.oneCell']) (by unfold maxLen; omega) (by omega) (by simp; omega) ?_; intro v' w1 hown1 hst)
  go_ret
  exact ⟨_, rfl, hown1, (Step.alloc _ _ _).trans hst⟩

set_option maxHeartbeats 1000000 in
set_option maxRecDepth 100000 in
theorem varint3 (w : World) (base : Nat) (sl : Value) (l : List UInt8) (v : Nat) (hv : 16384 ≤ v) (hv2 : v < 2097152) (hl : l.length ≤ 4194304) (hb : base ≤ w.heap.size)
    (hown : w.ownsRow base 5 1 sl l.length (bc l)) :
    Calls Try.prog 22 #[sl, .int .u64 (v : Int)] w fun e w' => ∃ sl', e = .returned sl' ∧
      w'.ownsRow base 5 1 sl' (l.length + 3) (bc l ++ [.int .u8 ((v : Int) % 128 + 128), .int .u8 ((v : Int) / 128 % 128 + 128), .int .u8 ((v : Int) / 16384)]) ∧ Step w w' sl sl' := by
  obtain ⟨i0, hi, hz0, hz1, hz2⟩ := info_parts info5
  have b0 := u64_and127 (v : Int) (by omega) (by omega)
  have b1 := u64_or128 ((v : Int) % 128) (by omega) (by omega)
  have b2 : ((v : Int) % 128 + 128) % 256 = (v : Int) % 128 + 128 := by omega
  have c0 := u64_and127 ((v : Int) / 128) (by omega) (by omega)
  have c1 := u64_or128 ((v : Int) / 128 % 128) (by omega) (by omega)
  have c2 : ((v : Int) / 128 % 128 + 128) % 256 = (v : Int) / 128 % 128 + 128 := by omega
  have d2 : (v : Int) / 16384 % 256 = (v : Int) / 16384 := by omega
  have t1 : decide ((v : Int) < 128) = false := by simp; omega
  have t2 : decide ((v : Int) < 16384) = false := by simp; omega
  have t3 : decide ((v : Int) < 2097152) = true := by simp; omega
  clear hv hv2
  go_enter Try.func22, Try.ntmps22
  go_wp2_with (at_builtin; refine wpList_append_strong _ rfl (.tmp 78) (.tmp 92) 24 rfl base 5 i0 (.int .u8 0) 1 1 Try.underlying24 hi hz0 hz1 hz2 rfl (by decide) sl l.length (bc l) rfl (hown.alloc _) ⟨w.heap.size, 0, none⟩ 3 3 [.int .u8 ((v : Int) % 128 + 128), .int .u8 ((v : Int) / 128 % 128 + 128), .int .u8 ((v : Int) / 16384)] rfl rfl (cells_new _ _ _) (by simp [Value.oneCell']) (by unfold maxLen; omega) (by omega) (by simp; omega) ?_; intro v' w1 hown1 hst)
  go_ret
  exact ⟨_, rfl, hown1, (Step.alloc _ _ _).trans hst⟩

/-- protowire.AppendVarint, for numbers below 2^21. -/
theorem appendVarint (w : World) (base : Nat) (sl : Value) (l : List UInt8) (v : Nat) (hv : v < 2097152) (hl : l.length ≤ 4194304) (hb : base ≤ w.heap.size)
    (hown : w.ownsRow base 5 1 sl l.length (bc l)) :
    Calls Try.prog 22 #[sl, .int .u64 (v : Int)] w fun e w' => ∃ sl', e = .returned sl' ∧ w'.ownsRow base 5 1 sl' (l ++ varint v).length (bc (l ++ varint v)) ∧ Step w w' sl sl' := by
  rw [List.length_append, varint_length, bc_append]
  by_cases h1 : v < 128
  · rw [if_pos h1, bc_varint1 v h1]
    exact varint1 w base sl l v h1 hl hb hown
  · by_cases h2 : v < 16384
    · rw [if_neg h1, if_pos h2, bc_varint2 v h1 h2]
      exact varint2 w base sl l v (by omega) h2 hl hb hown
    · rw [if_neg h1, if_neg h2, bc_varint3 v h2 hv]
      exact varint3 w base sl l v (by omega) hv hl hb hown
end Go.Proofs.Qxb6613949a
