/-
  PLAIN: entries are read back one way only; and small laws on rows for the main walk.
-/
import Derived.Test.Qxb6613949aReadEntry
namespace Go.Proofs.Qxb6613949a
open Go.ChangeShapes Go.WideShapes Go.ChangeAt Go.RowKit Own

/-- Reading a varint of at most three bytes. -/
def unvar : List UInt8 → Option (Nat × List UInt8)
  | a :: r => if a.toNat < 128 then some (a.toNat, r) else
    match r with
    | b :: r => if b.toNat < 128 then some (a.toNat - 128 + b.toNat * 128, r) else
      match r with
      | c :: r => some (a.toNat - 128 + (b.toNat - 128) * 128 + c.toNat * 16384, r)
      | [] => none
    | [] => none
  | [] => none

theorem unvar_varint (v : Nat) (hv : v < 2097152) (x : List UInt8) : unvar (varint v ++ x) = some (v, x) := by
  unfold varint
  split
  · rename_i h
    simp only [List.cons_append, List.nil_append, unvar, ofNat_toNat v (by omega), if_pos h]
  · rename_i h
    split
    · rename_i h2
      simp only [List.cons_append, List.nil_append, unvar, ofNat_toNat (v % 128 + 128) (by omega), ofNat_toNat (v / 128) (by omega)]
      rw [if_neg (by omega), if_pos (by omega)]
      congr 2
      omega
    · rename_i h2
      simp only [List.cons_append, List.nil_append, unvar, ofNat_toNat (v % 128 + 128) (by omega), ofNat_toNat (v / 128 % 128 + 128) (by omega), ofNat_toNat (v / 16384) (by omega)]
      rw [if_neg (by omega), if_neg (by omega)]
      congr 2
      omega

theorem entry_inj (a b : ByteArray) (ha : a.size ≤ 1048576) (hb : b.size ≤ 1048576) (h : entry a = entry b) : a = b := by
  unfold entry at h
  have h1 : varint a.size ++ a.data.toList = varint b.size ++ b.data.toList := (List.cons.inj h).2
  have h2 := congrArg unvar h1
  rw [unvar_varint _ (by omega), unvar_varint _ (by omega)] at h2
  have h3 : a.data.toList = b.data.toList := by
    have := Option.some.inj h2
    exact congrArg Prod.snd this
  exact ByteArray.ext (Array.toList_inj.1 h3)

theorem entry_length (s : ByteArray) (hs : s.size ≤ 1048576) : 2 ≤ (entry s).length ∧ (entry s).length ≤ 4 + s.size := by
  have hl := varint_length s.size
  have e : (entry s).length = 1 + (varint s.size).length + s.size := by
    simp only [entry, List.length_cons, List.length_append]
    have : s.data.toList.length = s.size := rfl
    omega
  split at hl
  · omega
  · split at hl <;> omega

theorem eqAt_refl (a : List UInt8) : eqAt a 0 a = true := eqAt_true a 0 a (fun j _ => by simp)
theorem eqAt_ne (a b : List UInt8) (hl : a.length = b.length) (h : a ≠ b) : eqAt a 0 b = false := by
  simp only [eqAt, List.drop_zero, beq_eq_false_iff_ne]
  rw [← hl, List.take_length]
  exact h
theorem eqAt_mid (a b c : List UInt8) : eqAt (a ++ b ++ c) a.length b = true := by
  simp only [eqAt, beq_iff_eq, List.append_assoc]
  rw [List.drop_left, List.take_left]
theorem eqAt_head (a c : List UInt8) : eqAt (a ++ c) 0 a = true := by
  simp only [eqAt, List.drop_zero, beq_iff_eq, List.take_left]
theorem eqAt_tail (a c : List UInt8) : eqAt (a ++ c) a.length c = true := by
  simp only [eqAt, List.drop_left, beq_iff_eq, List.take_length]

theorem own_drewN {w : World} {base : Nat} {e : TypeId} {size n : Nat} {v : Value} {xs : List Value} (h : w.ownsRow base e size v n xs) (m : Nat) : (w.drewN m).ownsRow base e size v n xs := by
  simpa [World.ownsRow] using h

theorem own_shape {w : World} {base : Nat} {e : TypeId} {size n : Nat} {v : Value} {xs : List Value} (h : w.ownsRow base e size v n xs) : ∃ o c, v = .slice o n c := by
  rcases h.2 with ⟨rfl, rfl⟩ | ⟨g, cap, cur, rfl, _⟩
  · exact ⟨_, _, rfl⟩
  · exact ⟨_, _, rfl⟩
theorem own_shape_pos {w : World} {base : Nat} {e : TypeId} {size n : Nat} {v : Value} {xs : List Value} (h : w.ownsRow base e size v n xs) (hn : 0 < n) : ∃ g c, v = .slice (some ⟨g, 0, none⟩) n c := by
  rcases h.2 with ⟨rfl, rfl⟩ | ⟨g, cap, cur, rfl, _⟩
  · omega
  · exact ⟨_, _, rfl⟩

theorem bytes7_yes (o : Option Addr) (n c : Nat) (a b : ByteArray) (h : n + a.size + b.size ≤ 1048576) (w : World) :
    Calls Try.prog 7 #[.slice o n c, .string a, .string b] w fun e w' => e = .returned (.bool true) ∧ w' = w := by
  go_enter Try.func7, Try.ntmps7
  go_wp2
  go_ret
  exact ⟨rfl, rfl⟩
theorem bytes7_no (o : Option Addr) (n c : Nat) (a b : ByteArray) (h : ¬ n + a.size + b.size ≤ 1048576) (hn : n ≤ maxLen) (ha : a.size ≤ maxLen) (hb : b.size ≤ maxLen) (w : World) :
    Calls Try.prog 7 #[.slice o n c, .string a, .string b] w fun e w' => e = .returned (.bool false) ∧ w' = w := by
  unfold maxLen at hn ha hb
  by_cases h1 : n ≤ 1048576
  · by_cases h2 : a.size ≤ 1048576
    · by_cases h3 : n + a.size ≤ 1048576
      · by_cases h4 : b.size ≤ 1048576
        all_goals
          go_enter Try.func7, Try.ntmps7
          go_wp2
          go_ret
          exact ⟨rfl, rfl⟩
      · go_enter Try.func7, Try.ntmps7
        go_wp2
        go_ret
        exact ⟨rfl, rfl⟩
    · go_enter Try.func7, Try.ntmps7
      go_wp2
      go_ret
      exact ⟨rfl, rfl⟩
  · go_enter Try.func7, Try.ntmps7
    go_wp2
    go_ret
    exact ⟨rfl, rfl⟩
end Go.Proofs.Qxb6613949a
