/-
  THE WALKS FROM protowire.EncodeTag UP TO 'ZZappendNamesEntry': the entry of a name is appended.
-/
import Derived.Test.Qxb6613949aVarint
namespace Go.Proofs.Qxb6613949a
open Go.ChangeShapes Go.WideShapes Go.ChangeAt Go.RowKit Own

theorem encodeTag (w : World) : Calls Try.prog 23 #[.int .i32 1, .int .i8 2] w fun e w' => e = .returned (.int .u64 10) ∧ w' = w := by
  go_enter Try.func23, Try.ntmps23
  go_wp2
  go_ret
  exact ⟨rfl, rfl⟩

theorem appendTag (w : World) (base : Nat) (sl : Value) (l : List UInt8) (hl : l.length ≤ 4194304) (hb : base ≤ w.heap.size)
    (hown : w.ownsRow base 5 1 sl l.length (bc l)) :
    Calls Try.prog 19 #[sl, .int .i32 1, .int .i8 2] w fun e w' => ∃ sl', e = .returned sl' ∧ w'.ownsRow base 5 1 sl' (l ++ [10]).length (bc (l ++ [10])) ∧ Step w w' sl sl' := by
  go_enter Try.func19, Try.ntmps19
  go_wp2_with fail
  refine (encodeTag _).mono ?_
  rintro e w' ⟨rfl, rfl⟩
  go_wp2_with fail
  refine (appendVarint _ base sl l 10 (by omega) hl hb hown).mono ?_
  rintro e w' ⟨sl', rfl, h1, h2⟩
  go_wp2_with fail
  go_ret
  exact ⟨_, rfl, h1, h2⟩

theorem strCells_eq (s : ByteArray) : Lib.strCells s = bc s.data.toList := rfl

set_option maxHeartbeats 400000 in
theorem appendStr (w : World) (base : Nat) (sl : Value) (l : List UInt8) (s : ByteArray) (hs : s.size ≤ 1048576) (hl : l.length ≤ 4194303) (hb : base ≤ w.heap.size)
    (hown : w.ownsRow base 5 1 sl l.length (bc l)) :
    Calls Try.prog 20 #[sl, .string s] w fun e w' => ∃ sl', e = .returned sl' ∧
      w'.ownsRow base 5 1 sl' (l ++ varint s.size ++ s.data.toList).length (bc (l ++ varint s.size ++ s.data.toList)) ∧ Step w w' sl sl' := by
  obtain ⟨i0, hi, hz0, hz1, hz2⟩ := info_parts info5
  go_enter Try.func20, Try.ntmps20
  go_wp2_with fail
  refine (appendVarint _ base sl l s.size (by omega) (by omega) hb hown).mono ?_
  rintro e w1 ⟨sl1, rfl, h1, h2⟩
  have hvl : (l ++ varint s.size).length ≤ l.length + 3 := by
    rw [List.length_append, varint_length]; split <;> (try split) <;> omega
  have hb1 : base ≤ w1.heap.size := Nat.le_trans hb h2.grown.size
  obtain ⟨l1, hl1⟩ : ∃ l1, l1 = l ++ varint s.size := ⟨_, rfl⟩
  rw [← hl1] at h1 hvl
  have Hl : Hid (l1 = l ++ varint s.size) := hl1
  clear hl1
  go_wp2_with (at_builtin; refine wpList_append_string_strong _ rfl (.tmp 9) (.tmp 10) 24 9 rfl base 5 i0 Try.underlying24 Try.underlying9 hi hz0 hz1 hz2 sl1 l1.length (bc l1) rfl h1 s rfl (by unfold maxLen; omega) (by omega) hb1 ?_; intro v' w2 hown2 hst)
  go_ret
  refine ⟨_, rfl, ?_, h2.trans hst⟩
  rw [strCells_eq] at hown2
  rw [← Hl.out, List.length_append, bc_append]
  exact hown2

theorem appendString (w : World) (base : Nat) (sl : Value) (l : List UInt8) (s : ByteArray) (hs : s.size ≤ 1048576) (hl : l.length ≤ 4194302) (hb : base ≤ w.heap.size)
    (hown : w.ownsRow base 5 1 sl l.length (bc l)) :
    Calls Try.prog 17 #[sl, .int .i32 1, .string s] w fun e w' => ∃ sl', e = .returned sl' ∧ w'.ownsRow base 5 1 sl' (l ++ entry s).length (bc (l ++ entry s)) ∧ Step w w' sl sl' := by
  have he : l ++ [10] ++ varint s.size ++ s.data.toList = l ++ entry s := by simp [entry]
  have He : Hid (l ++ [10] ++ varint s.size ++ s.data.toList = l ++ entry s) := he
  clear he
  go_enter Try.func17, Try.ntmps17
  go_wp2_with fail
  refine (appendTag _ base sl l (by omega) hb hown).mono ?_
  rintro e w1 ⟨sl1, rfl, h1, h2⟩
  have hb1 : base ≤ w1.heap.size := Nat.le_trans hb h2.grown.size
  go_wp2_with fail
  refine (appendStr _ base sl1 (l ++ [10]) s hs (by simp; omega) hb1 h1).mono ?_
  rintro e w2 ⟨sl2, rfl, h3, h4⟩
  rw [He.out] at h3
  go_wp2_with fail
  go_ret
  exact ⟨_, rfl, h3, h2.trans h4⟩

theorem namesEntry13 (w : World) (base b : Nat) (sl : Value) (l : List UInt8) (s : ByteArray) (hs : s.size ≤ 1048576) (hl : l.length ≤ 4194302) (hb : base ≤ w.heap.size)
    (hown : w.ownsRow base 5 1 sl l.length (bc l)) (hc : w.cell? ⟨b, 0, none⟩ = some (.string s)) :
    Calls Try.prog 13 #[sl, .pointer (some ⟨b, 0, none⟩)] w fun e w' => ∃ sl', e = .returned sl' ∧ w'.ownsRow base 5 1 sl' (l ++ entry s).length (bc (l ++ entry s)) ∧ Step w w' sl sl' := by
  go_enter Try.func13, Try.ntmps13
  go_wp2_with fail
  refine (appendString _ base sl l s hs hl hb hown).mono ?_
  rintro e w1 ⟨sl1, rfl, h1, h2⟩
  go_wp2_with fail
  go_ret
  exact ⟨_, rfl, h1, h2⟩

/-- 'ZZappendNamesEntry': the entry of the name that the pointer leads to is appended. -/
theorem namesEntry (w : World) (base b : Nat) (sl : Value) (l : List UInt8) (s : ByteArray) (hs : s.size ≤ 1048576) (hl : l.length ≤ 4194302) (hb : base ≤ w.heap.size)
    (hown : w.ownsRow base 5 1 sl l.length (bc l)) (hc : w.cell? ⟨b, 0, none⟩ = some (.string s)) :
    Calls Try.prog 9 #[sl, .pointer (some ⟨b, 0, none⟩)] w fun e w' => ∃ sl', e = .returned sl' ∧ w'.ownsRow base 5 1 sl' (l ++ entry s).length (bc (l ++ entry s)) ∧ Step w w' sl sl' := by
  go_enter Try.func9, Try.ntmps9
  go_wp2_with fail
  refine (namesEntry13 _ base b sl l s hs hl hb hown hc).mono ?_
  rintro e w1 ⟨sl1, rfl, h1, h2⟩
  go_wp2_with fail
  go_ret
  exact ⟨_, rfl, h1, h2⟩
end Go.Proofs.Qxb6613949a
