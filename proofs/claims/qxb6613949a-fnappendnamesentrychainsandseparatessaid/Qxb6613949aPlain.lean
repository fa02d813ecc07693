/-
  PLAIN: the varint of a length, the entry of a name, and the bits by which Go writes and reads them. No Go text.
-/
import Derived.Laws.BitsLemmas
import Derived.RowKit
namespace Go.Proofs.Qxb6613949a
open Go.RowKit

/-- A list of bytes as cells. -/
def bc (l : List UInt8) : List Value := l.map fun b => Value.int .u8 b.toNat

theorem bc_append (a b : List UInt8) : bc (a ++ b) = bc a ++ bc b := List.map_append
theorem bc_length (l : List UInt8) : (bc l).length = l.length := List.length_map _

/-- The shortest base-128 varint of v, for v below 2^21. -/
def varint (v : Nat) : List UInt8 :=
  if v < 128 then [UInt8.ofNat v]
  else if v < 16384 then [UInt8.ofNat (v % 128 + 128), UInt8.ofNat (v / 128)]
  else [UInt8.ofNat (v % 128 + 128), UInt8.ofNat (v / 128 % 128 + 128), UInt8.ofNat (v / 16384)]

/-- The entry of a name: the tag byte, the length, the name. -/
def entry (s : ByteArray) : List UInt8 := 10 :: (varint s.size ++ s.data.toList)

theorem wraps_u64 (n : Int) (h₀ : 0 ≤ n) (h₁ : n < 2 ^ 64) : IntKind.u64.wrap n = n := by
  obtain ⟨q, rfl⟩ := Int.eq_ofNat_of_zero_le h₀
  simp only [IntKind.wrap, IntKind.bits, IntKind.signed]
  simp
  omega

theorem u64_and127 (x : Int) (h0 : 0 ≤ x) (h1 : x < 18446744073709551616) : bits .and .u64 x 127 = x % 128 :=
  bits_mask .u64 64 (by decide) wraps_u64 7 (by decide) x h0 h1

theorem u64_or128 (y : Int) (h0 : 0 ≤ y) (h1 : y < 128) : bits .or .u64 y 128 = y + 128 := by
  have hc : bits .or .u64 y 128 = bits .or .u64 128 y := by simp only [bits, BitVec.or_comm]
  rw [hc, bits_join .u64 64 (by decide) wraps_u64 7 128 y (by decide) (by decide) (by decide) h0 h1 (by omega)]
  omega

theorem u8_and127 (x : Int) (h0 : 0 ≤ x) (h1 : x < 256) : bits .and .u8 x 127 = x % 128 :=
  bits_mask .u8 8 (by decide) wraps_u8 7 (by decide) x h0 h1

theorem ofNat_toNat (n : Nat) (h : n < 256) : (UInt8.ofNat n).toNat = n := by simp; omega

theorem bc_varint1 (v : Nat) (h : v < 128) : bc (varint v) = [.int .u8 (v : Int)] := by
  simp only [varint, if_pos h, bc, List.map_cons, List.map_nil, ofNat_toNat v (by omega)]
theorem bc_varint2 (v : Nat) (h : ¬ v < 128) (h2 : v < 16384) : bc (varint v) = [.int .u8 ((v : Int) % 128 + 128), .int .u8 ((v : Int) / 128)] := by
  simp only [varint, if_neg h, if_pos h2, bc, List.map_cons, List.map_nil, ofNat_toNat (v % 128 + 128) (by omega), ofNat_toNat (v / 128) (by omega)]
  rw [show ((v % 128 + 128 : Nat) : Int) = (v : Int) % 128 + 128 by omega, show ((v / 128 : Nat) : Int) = (v : Int) / 128 by omega]
theorem bc_varint3 (v : Nat) (h2 : ¬ v < 16384) (h3 : v < 2097152) : bc (varint v) = [.int .u8 ((v : Int) % 128 + 128), .int .u8 ((v : Int) / 128 % 128 + 128), .int .u8 ((v : Int) / 16384)] := by
  simp only [varint, if_neg (show ¬ v < 128 by omega), if_neg h2, bc, List.map_cons, List.map_nil, ofNat_toNat (v % 128 + 128) (by omega), ofNat_toNat (v / 128 % 128 + 128) (by omega), ofNat_toNat (v / 16384) (by omega)]
  rw [show ((v % 128 + 128 : Nat) : Int) = (v : Int) % 128 + 128 by omega, show ((v / 128 % 128 + 128 : Nat) : Int) = (v : Int) / 128 % 128 + 128 by omega, show ((v / 16384 : Nat) : Int) = (v : Int) / 16384 by omega]

theorem varint_length (v : Nat) : (varint v).length = if v < 128 then 1 else if v < 16384 then 2 else 3 := by
  unfold varint
  split
  · rfl
  · split <;> rfl

end Go.Proofs.Qxb6613949a
