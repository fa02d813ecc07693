/-
  PLAIN ARITHMETIC FOR THE TWO LAWS OVER 'slot': powers of two, masks, remainders. No Go text.
-/
import Derived.Laws.BitsLemmas
import Derived.RowKit
namespace Go.Proofs.Qxb6613902a.Plain
open Go.RowKit

/-- A number of which no bit is shared with its predecessor is a power of two. -/
theorem pow2_of_and (n : Nat) (h1 : 1 ≤ n) (h : n &&& (n - 1) = 0) : ∃ i, n = 2 ^ i := by
  refine ⟨n.log2, ?_⟩
  have hn : n ≠ 0 := by omega
  have hlo : 2 ^ n.log2 ≤ n := Nat.log2_self_le hn
  have hhi : n < 2 ^ (n.log2 + 1) := Nat.lt_log2_self
  by_cases he : n = 2 ^ n.log2
  · exact he
  · exfalso
    have bit : ∀ m, 2 ^ n.log2 ≤ m → m < 2 ^ (n.log2 + 1) → m.testBit n.log2 = true := by
      intro m hl hh
      rw [Nat.testBit_eq_decide_div_mod_eq]
      have e : m / 2 ^ n.log2 = 1 := by
        rw [Nat.div_eq_iff (Nat.two_pow_pos _)]
        rw [Nat.pow_succ] at hh
        omega
      rw [e]
      decide
    have b1 := bit n hlo hhi
    have b2 := bit (n - 1) (by omega) (by omega)
    have b3 : (n &&& (n - 1)).testBit n.log2 = true := by rw [Nat.testBit_and, b1, b2]; rfl
    rw [h, Nat.zero_testBit] at b3
    cases b3

theorem wraps_i64 (n : Int) (h₀ : 0 ≤ n) (h₁ : n < 2 ^ 63) : IntKind.i64.wrap n = n := by rw [IntKind.wrap_i64]; omega

theorem and_i64_nat (a b : Nat) (ha : a < 9223372036854775808) (hb : b < 9223372036854775808) : bits .and .i64 (a : Int) (b : Int) = ((a &&& b : Nat) : Int) :=
  (bits_nat .i64 63 (by decide) wraps_i64 a b (by omega) (by omega)).1

/-- The law's own test: 'n & (n-1) == 0'. -/
theorem pow2_of_test (n : Nat) (h1 : 1 ≤ n) (h2 : n ≤ 65536) (h : bits .and .i64 (n : Int) ((n : Int) - 1) = 0) : ∃ i, i ≤ 16 ∧ n = 2 ^ i := by
  rw [show ((n : Int) - 1) = ((n - 1 : Nat) : Int) by omega, and_i64_nat n (n - 1) (by omega) (by omega)] at h
  obtain ⟨i, rfl⟩ := pow2_of_and n h1 (by exact_mod_cast h)
  refine ⟨i, ?_, rfl⟩
  by_cases hi : i ≤ 16
  · exact hi
  · have : 2 ^ 17 ≤ 2 ^ i := Nat.pow_le_pow_right (by decide) (by omega)
    omega

theorem i64_mask (x : Int) (i : Nat) (hi : i ≤ 62) : bits .and .i64 x ((2 ^ i : Nat) - 1 : Int) = x % ((2 ^ i : Nat) : Int) := by
  have hpos : 0 < 2 ^ i := Nat.two_pow_pos i
  have hle : 2 ^ i ≤ 2 ^ 62 := Nat.pow_le_pow_right (by decide) hi
  have hm : (BitVec.ofInt 64 (((2 ^ i : Nat) : Int) - 1)).toNat = 2 ^ i - 1 := by
    rw [show (((2 ^ i : Nat) : Int) - 1) = ((2 ^ i - 1 : Nat) : Int) by omega, BitVec.ofInt_natCast, BitVec.toNat_ofNat]
    omega
  have key : (BitVec.ofInt 64 x &&& BitVec.ofInt 64 (((2 ^ i : Nat) : Int) - 1)).toNat = (x % ((2 ^ 64 : Nat) : Int)).toNat % 2 ^ i := by
    rw [BitVec.toNat_and, BitVec.toNat_ofInt, hm, Nat.and_two_pow_sub_one_eq_mod]
  have hd : ((2 ^ i : Nat) : Int) ∣ ((2 ^ 64 : Nat) : Int) := Int.natCast_dvd_natCast.2 (Nat.pow_dvd_pow 2 (by omega))
  have hlt : (x % ((2 ^ 64 : Nat) : Int)).toNat % 2 ^ i < 2 ^ i := Nat.mod_lt _ hpos
  have hnn : 0 ≤ x % ((2 ^ 64 : Nat) : Int) := Int.emod_nonneg _ (by decide)
  show IntKind.i64.wrap ((BitVec.ofInt 64 x &&& BitVec.ofInt 64 (((2 ^ i : Nat) : Int) - 1)).toNat : Nat) = _
  rw [key, wraps_i64 _ (by omega) (by omega), Int.natCast_emod, Int.toNat_of_nonneg hnn, Int.emod_emod_of_dvd _ hd]

/-- 'int(hash) & (len - 1)': the remainder. -/
theorem slot_eq (h n : Nat) (hp : ∃ i, i ≤ 17 ∧ n = 2 ^ i) : bits .and .i64 (wrap64 (h : Int)) ((n : Int) - 1) = ((h % n : Nat) : Int) := by
  obtain ⟨i, hi, rfl⟩ := hp
  rw [i64_mask _ i (by omega)]
  have hd : ((2 ^ i : Nat) : Int) ∣ (18446744073709551616 : Int) := by
    rw [show (18446744073709551616 : Int) = ((2 ^ 64 : Nat) : Int) by decide]
    exact Int.natCast_dvd_natCast.2 (Nat.pow_dvd_pow 2 (by omega))
  obtain ⟨c, hc⟩ := hd
  have hw : wrap64 (h : Int) = (h : Int) + ((2 ^ i : Nat) : Int) * (- c * (((h : Int) + 9223372036854775808) / 18446744073709551616)) := by
    unfold wrap64
    rw [← Int.mul_assoc, Int.mul_neg, ← hc]
    omega
  rw [hw, Int.add_mul_emod_self_left, Int.natCast_emod]

theorem double_even (h n : Nat) (e : h / n % 2 = 0) : h % (2 * n) = h % n := by
  rw [Nat.mul_comm, Nat.mod_mul, e]; simp
theorem double_odd (h n : Nat) (e : h / n % 2 ≠ 0) : h % (2 * n) = h % n + n := by
  have : h / n % 2 = 1 := by omega
  rw [Nat.mul_comm, Nat.mod_mul, this]; simp

/-- The slot of 'hash + 1' (which may turn over at 2^64) is the next one. -/
theorem next_eq (h n : Nat) (hp : ∃ i, i ≤ 17 ∧ n = 2 ^ i) : ((h + 1) % 18446744073709551616) % n = (h % n + 1) % n := by
  obtain ⟨i, hi, rfl⟩ := hp
  have hd : 2 ^ i ∣ 18446744073709551616 := Nat.pow_dvd_pow 2 (show i ≤ 64 by omega)
  rw [Nat.mod_mod_of_dvd _ hd, Nat.add_mod (h % 2 ^ i), Nat.mod_mod, ← Nat.add_mod]

/-- The top sixteen bits do not bear on the slot. -/
theorem flip_eq (h t n : Nat) (hp : ∃ i, i ≤ 17 ∧ n = 2 ^ i) : (h ^^^ (t * 281474976710656)) % n = h % n := by
  obtain ⟨i, hi, rfl⟩ := hp
  have hd : (t * 281474976710656) % 2 ^ i = 0 := Nat.mod_eq_zero_of_dvd (Nat.dvd_trans (Nat.pow_dvd_pow 2 (show i ≤ 48 by omega)) (Nat.dvd_mul_left _ _))
  rw [Nat.xor_mod_two_pow, hd, Nat.xor_zero]

theorem u64_wrap_nat (q : Nat) (h : q < 18446744073709551616) : IntKind.u64.wrap (q : Int) = (q : Int) := by
  simp only [IntKind.wrap, IntKind.bits, IntKind.signed]
  simp
  omega

/-- 'hash + 1' over uint64: some number whose remainder is the next one. -/
theorem wrap_succ (h n : Nat) (hp : ∃ i, i ≤ 17 ∧ n = 2 ^ i) : ∃ m : Nat, IntKind.u64.wrap ((h : Int) + 1) = (m : Int) ∧ m % n = (h % n + 1) % n := by
  refine ⟨(h + 1) % 18446744073709551616, ?_, next_eq h n hp⟩
  simp only [IntKind.wrap, IntKind.bits, IntKind.signed]
  simp

/-- 'hash ^ (uint64(top) << 48)': some number with hash's own remainder. -/
theorem xor_top (h t n : Nat) (hh : h < 18446744073709551616) (ht : t < 65536) (hp : ∃ i, i ≤ 17 ∧ n = 2 ^ i) :
    ∃ m : Nat, bits .xor .u64 (h : Int) ((t : Int) * 281474976710656) = (m : Int) ∧ m % n = h % n := by
  refine ⟨h ^^^ (t * 281474976710656), ?_, flip_eq h t n hp⟩
  have hlt : h ^^^ (t * 281474976710656) < 2 ^ 64 := Nat.xor_lt_two_pow hh (by omega)
  have h1 : h % 2 ^ 64 = h := Nat.mod_eq_of_lt (by omega)
  have h2 : (t * 281474976710656) % 2 ^ 64 = t * 281474976710656 := Nat.mod_eq_of_lt (by omega)
  rw [show ((t : Int) * 281474976710656) = ((t * 281474976710656 : Nat) : Int) by omega]
  show IntKind.u64.wrap ((BitVec.ofInt 64 (h : Int) ^^^ BitVec.ofInt 64 ((t * 281474976710656 : Nat) : Int)).toNat : Nat) = _
  rw [BitVec.toNat_xor, BitVec.ofInt_natCast, BitVec.ofInt_natCast, BitVec.toNat_ofNat, BitVec.toNat_ofNat, h1, h2]
  exact u64_wrap_nat _ (by omega)

theorem rem_bounds (h n : Nat) (h1 : 1 ≤ n) : 0 ≤ (h : Int) % (n : Int) ∧ (h : Int) % (n : Int) < n := by
  exact ⟨Int.emod_nonneg _ (by omega), Int.emod_lt_of_pos _ (by omega)⟩
theorem wrap_rem (h n : Nat) (h1 : 1 ≤ n) (h2 : n ≤ 65536) : wrap64 ((h : Int) % (n : Int)) = (h : Int) % (n : Int) := by
  have hb := rem_bounds h n h1
  generalize (h : Int) % (n : Int) = r at *
  unfold wrap64
  omega
theorem wrap_rem1 (h n : Nat) (h1 : 1 ≤ n) (h2 : n ≤ 65536) : wrap64 ((h : Int) % (n : Int) + 1) = (h : Int) % (n : Int) + 1 := by
  have hb := rem_bounds h n h1
  generalize (h : Int) % (n : Int) = r at *
  unfold wrap64
  omega
theorem tmod_rem1 (h n : Nat) (h1 : 1 ≤ n) : ((h : Int) % (n : Int) + 1).tmod (n : Int) = ((h : Int) + 1) % (n : Int) := by
  have hb := rem_bounds h n h1
  rw [Int.tmod_eq_emod_of_nonneg (by omega)]
  simp

end Go.Proofs.Qxb6613902a.Plain
