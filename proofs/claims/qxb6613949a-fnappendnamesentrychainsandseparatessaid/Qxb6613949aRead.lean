/-
  THE WALKS OF 'zzVarintLen' AND 'zzReadVarint', for numbers below 2^21.
-/
import Derived.Test.Qxb6613949aEqAt
namespace Go.Proofs.Qxb6613949a
open Go.ChangeShapes Go.WideShapes Go.ChangeAt Go.RowKit Own

set_option maxHeartbeats 1000000 in
set_option maxRecDepth 100000 in
theorem varintLen1 (v : Nat) (hv : v < 128) (w : World) : Calls Try.prog 15 #[.int .u64 (v : Int)] w fun e w' => e = .returned (.int .i64 1) ∧ w' = w := by
  have t1 : decide (128 ≤ (v : Int)) = false := by simp; omega
  go_enter Try.func15, Try.ntmps15
  go_wp2
  refine wp_loop_rounds 1 ?_
  rw [rounds_succ]
  go_wp2
  go_ret
  exact ⟨rfl, rfl⟩
set_option maxHeartbeats 1000000 in
set_option maxRecDepth 100000 in
theorem varintLen2 (v : Nat) (hv : 128 ≤ v) (hv2 : v < 16384) (w : World) : Calls Try.prog 15 #[.int .u64 (v : Int)] w fun e w' => e = .returned (.int .i64 2) ∧ w' = w := by
  go_enter Try.func15, Try.ntmps15
  go_wp2
  refine wp_loop_rounds 2 ?_
  rw [rounds_succ]
  go_wp2
  rw [rounds_succ]
  go_wp2
  go_ret
  exact ⟨rfl, rfl⟩
theorem u8_low7 (y : Nat) (hy : y < 128) : bits .and .u8 ((y : Int) + 128) 127 = (y : Int) := by
  rw [u8_and127 _ (by omega) (by omega)]; omega
theorem u8_low7' (y : Nat) (hy : y < 128) : bits .and .u8 (y : Int) 127 = (y : Int) := by
  rw [u8_and127 _ (by omega) (by omega)]; omega
theorem u64_or_zero (y : Nat) (hy : y < 128) : bits .or .u64 0 (y : Int) = (y : Int) := by
  have := bits_join .u64 64 (by decide) wraps_u64 7 0 (y : Int) (by decide) (by decide) (by decide) (by omega) (by omega) (by omega)
  omega
theorem or_comm_u64 (x y : Int) : bits .or .u64 x y = bits .or .u64 y x := by simp only [bits, BitVec.or_comm]
theorem u64_or_7 (y0 y1 : Nat) (h0 : y0 < 128) (h1 : y1 < 128) : bits .or .u64 (y0 : Int) ((y1 : Int) * 128) = (y0 : Int) + (y1 : Int) * 128 := by
  rw [or_comm_u64, bits_join .u64 64 (by decide) wraps_u64 7 ((y1 : Int) * 128) (y0 : Int) (by omega) (by omega) (by omega) (by omega) (by omega) (by omega)]
  omega
theorem u64_or_14 (x y2 : Nat) (h0 : x < 16384) (h1 : y2 < 128) : bits .or .u64 (x : Int) ((y2 : Int) * 16384) = (x : Int) + (y2 : Int) * 16384 := by
  rw [or_comm_u64, bits_join .u64 64 (by decide) wraps_u64 14 ((y2 : Int) * 16384) (x : Int) (by omega) (by omega) (by omega) (by omega) (by omega) (by omega)]
  omega
set_option maxHeartbeats 1000000 in
set_option maxRecDepth 100000 in
theorem varintLen3 (v : Nat) (hv : 16384 ≤ v) (hv2 : v < 2097152) (w : World) : Calls Try.prog 15 #[.int .u64 (v : Int)] w fun e w' => e = .returned (.int .i64 3) ∧ w' = w := by
  have t1 : decide (128 ≤ (v : Int)) = true := by simp; omega
  have t2 : decide (128 ≤ (v : Int) / 128) = true := by simp; omega
  have t3 : decide (128 ≤ (v : Int) / 128 / 128) = false := by simp; omega
  clear hv hv2
  go_enter Try.func15, Try.ntmps15
  go_wp2
  refine wp_loop_rounds 3 ?_
  rw [rounds_succ]
  go_wp2
  rw [rounds_succ]
  go_wp2
  rw [rounds_succ]
  go_wp2
  go_ret
  exact ⟨rfl, rfl⟩
set_option maxHeartbeats 1000000 in
set_option maxRecDepth 100000 in
theorem readVarint1 (w : World) (g n cap p : Nat) (y0 : Nat) (h0 : y0 < 128) (hp : p + 1 ≤ n) (hn : n ≤ 8388608)
   (c0 : w.cell? ⟨g, p, none⟩ = some (.int .u8 (y0 : Int))) :
   Calls Try.prog 14 #[.slice (some ⟨g, 0, none⟩) n cap, .int .i64 (p : Int)] w fun e w' => e = .returned (.tuple #[.int .u64 (y0 : Int), .int .i64 ((p : Int) + 1), .bool true]) ∧ w' = w := by
  have a0 := u8_low7' y0 h0
  have o0 := u64_or_zero y0 h0
  go_enter Try.func14, Try.ntmps14
  go_wp2
  refine wp_loop_rounds 1 ?_
  rw [rounds_succ]
  go_wp2
  go_ret3
  exact ⟨rfl, rfl⟩

set_option maxHeartbeats 1000000 in
set_option maxRecDepth 100000 in
theorem readVarint2 (w : World) (g n cap p : Nat) (y0 y1 : Nat) (h0 : y0 < 128) (h1 : y1 < 128) (hp : p + 2 ≤ n) (hn : n ≤ 8388608)
   (c0 : w.cell? ⟨g, p, none⟩ = some (.int .u8 ((y0 : Int) + 128))) (c1 : w.cell? ⟨g, p + 1, none⟩ = some (.int .u8 (y1 : Int))) :
   Calls Try.prog 14 #[.slice (some ⟨g, 0, none⟩) n cap, .int .i64 (p : Int)] w fun e w' => e = .returned (.tuple #[.int .u64 ((y0 : Int) + (y1 : Int) * 128), .int .i64 ((p : Int) + 1 + 1), .bool true]) ∧ w' = w := by
  have a0 := u8_low7 y0 h0
  have a1 := u8_low7' y1 h1
  have o0 := u64_or_zero y0 h0
  have o1 := u64_or_7 y0 y1 h0 h1
  go_enter Try.func14, Try.ntmps14
  go_wp2
  refine wp_loop_rounds 2 ?_
  rw [rounds_succ]
  go_wp2
  rw [rounds_succ]
  go_wp2
  go_ret3
  exact ⟨rfl, rfl⟩

set_option maxHeartbeats 1000000 in
set_option maxRecDepth 100000 in
theorem readVarint3 (w : World) (g n cap p : Nat) (y0 y1 y2 : Nat) (h0 : y0 < 128) (h1 : y1 < 128) (h2 : y2 < 128) (hp : p + 3 ≤ n) (hn : n ≤ 8388608)
   (c0 : w.cell? ⟨g, p, none⟩ = some (.int .u8 ((y0 : Int) + 128))) (c1 : w.cell? ⟨g, p + 1, none⟩ = some (.int .u8 ((y1 : Int) + 128))) (c2 : w.cell? ⟨g, p + 2, none⟩ = some (.int .u8 (y2 : Int))) :
   Calls Try.prog 14 #[.slice (some ⟨g, 0, none⟩) n cap, .int .i64 (p : Int)] w fun e w' => e = .returned (.tuple #[.int .u64 ((y0 : Int) + (y1 : Int) * 128 + (y2 : Int) * 16384), .int .i64 ((p : Int) + 2 + 1), .bool true]) ∧ w' = w := by
  have a0 := u8_low7 y0 h0
  have a1 := u8_low7 y1 h1
  have a2 := u8_low7' y2 h2
  have o0 := u64_or_zero y0 h0
  have o1 := u64_or_7 y0 y1 h0 h1
  have o2 := u64_or_14 (y0 + y1 * 128) y2 (by omega) h2
  rw [show ((y0 + y1 * 128 : Nat) : Int) = (y0 : Int) + (y1 : Int) * 128 by omega] at o2
  go_enter Try.func14, Try.ntmps14
  go_wp2
  refine wp_loop_rounds 3 ?_
  rw [rounds_succ]
  go_wp2
  rw [rounds_succ]
  go_wp2
  rw [rounds_succ]
  go_wp2
  go_ret3
  exact ⟨rfl, rfl⟩

/-- 'zzVarintLen' of a number below 2^21. -/
theorem varintLen (v : Nat) (hv : v < 2097152) (w : World) : Calls Try.prog 15 #[.int .u64 (v : Int)] w fun e w' => e = .returned (.int .i64 ((varint v).length : Int)) ∧ w' = w := by
  rw [varint_length]
  by_cases h1 : v < 128
  · rw [if_pos h1]; exact varintLen1 v h1 w
  · by_cases h2 : v < 16384
    · rw [if_neg h1, if_pos h2]; exact varintLen2 v (by omega) h2 w
    · rw [if_neg h1, if_neg h2]; exact varintLen3 v (by omega) hv w

/-- 'zzReadVarint' where a varint stands at position p. -/
theorem readVarint (w : World) (base g cap p v : Nat) (l rest : List UInt8) (hv : v < 2097152) (hn : l.length ≤ 8388608) (hl : l.drop p = varint v ++ rest)
    (ho : w.ownsRow base 5 1 (.slice (some ⟨g, 0, none⟩) l.length cap) l.length (bc l)) :
    Calls Try.prog 14 #[.slice (some ⟨g, 0, none⟩) l.length cap, .int .i64 (p : Int)] w fun e w' =>
      e = .returned (.tuple #[.int .u64 (v : Int), .int .i64 ((p + (varint v).length : Nat) : Int), .bool true]) ∧ w' = w := by
  have hlen : l.length - p = (varint v).length + rest.length := by
    have := congrArg List.length hl; simpa using this
  have hcell : ∀ j, j < (varint v).length → w.cell? ⟨g, p + j, none⟩ = (bc (varint v))[j]? := by
    intro j hj
    rw [ho.cellAt (p + j) (by omega)]
    have e1 : (bc l)[p + j]? = (bc (l.drop p))[j]? := by simp [bc, List.getElem?_drop]
    rw [e1, hl, bc_append, List.getElem?_append_left (by rw [bc_length]; exact hj)]
  have hvl := varint_length v
  by_cases h1 : v < 128
  · rw [if_pos h1] at hvl
    have c0 := hcell 0 (by omega)
    rw [bc_varint1 v h1] at c0
    refine (readVarint1 w g l.length cap p v h1 (by omega) hn c0).mono ?_
    rintro e w' ⟨rfl, rfl⟩
    rw [hvl]
    exact ⟨rfl, rfl⟩
  · by_cases h2 : v < 16384
    · rw [if_neg h1, if_pos h2] at hvl
      have c0 := hcell 0 (by omega)
      have c1 := hcell 1 (by omega)
      rw [bc_varint2 v h1 h2] at c0 c1
      have hy0 : ((v % 128 : Nat) : Int) + 128 = (v : Int) % 128 + 128 := by omega
      have hy1 : ((v / 128 : Nat) : Int) = (v : Int) / 128 := by omega
      refine (readVarint2 w g l.length cap p (v % 128) (v / 128) (by omega) (by omega) (by omega) hn (by rw [hy0]; exact c0) (by rw [hy1]; exact c1)).mono ?_
      rintro e w' ⟨rfl, rfl⟩
      rw [hvl, show ((v % 128 : Nat) : Int) + ((v / 128 : Nat) : Int) * 128 = (v : Int) by omega]
      exact ⟨rfl, rfl⟩
    · rw [if_neg h1, if_neg h2] at hvl
      have c0 := hcell 0 (by omega)
      have c1 := hcell 1 (by omega)
      have c2 := hcell 2 (by omega)
      rw [bc_varint3 v h2 hv] at c0 c1 c2
      have hy0 : ((v % 128 : Nat) : Int) + 128 = (v : Int) % 128 + 128 := by omega
      have hy1 : ((v / 128 % 128 : Nat) : Int) + 128 = (v : Int) / 128 % 128 + 128 := by omega
      have hy2 : ((v / 16384 : Nat) : Int) = (v : Int) / 16384 := by omega
      refine (readVarint3 w g l.length cap p (v % 128) (v / 128 % 128) (v / 16384) (by omega) (by omega) (by omega) (by omega) hn (by rw [hy0]; exact c0) (by rw [hy1]; exact c1) (by rw [hy2]; exact c2)).mono ?_
      rintro e w' ⟨rfl, rfl⟩
      rw [hvl, show ((v % 128 : Nat) : Int) + ((v / 128 % 128 : Nat) : Int) * 128 + ((v / 16384 : Nat) : Int) * 16384 = (v : Int) by omega]
      exact ⟨rfl, rfl⟩
end Go.Proofs.Qxb6613949a
