/-
  PLAIN: joining one more; the step of the insertion sort; the sum over the kept ones. No Go text but for the cells of a row.
-/
import Derived.Test.Qxb6613348aPlain
import Derived.Test.Qxb6613348aSums
namespace Go.Proofs.Qxb6613348a
open Go.RowKit Own

theorem join_nil (sep : List UInt8) : Lib.join [] sep = [] := rfl
theorem join_one (x sep : List UInt8) : Lib.join [x] sep = x := by simp [Lib.join, List.intercalate]
theorem join_two (x y : List UInt8) (r : List (List UInt8)) (sep : List UInt8) : Lib.join (x :: y :: r) sep = x ++ sep ++ Lib.join (y :: r) sep := by
  simp [Lib.join, List.intercalate]
theorem join_snoc (ys : List (List UInt8)) (x sep : List UInt8) (h : ys ≠ []) : Lib.join (ys ++ [x]) sep = Lib.join ys sep ++ sep ++ x := by
  induction ys with
  | nil => exact absurd rfl h
  | cons a r ih =>
    cases r with
    | nil => rw [List.singleton_append, join_two, join_one, join_one]
    | cons b r => rw [List.cons_append, List.cons_append, join_two, ← List.cons_append, ih (by simp), join_two]; simp

theorem join_len (ys : List (List UInt8)) (sep : List UInt8) : (Lib.join ys sep).length ≤ tot ys + sep.length * ys.length := by
  induction ys with
  | nil => simp [join_nil, tot]
  | cons a r ih =>
    cases r with
    | nil => rw [join_one]; simp only [tot, List.length_cons, List.length_nil]; omega
    | cons b r =>
      rw [join_two]
      simp only [List.length_append, tot, List.length_cons] at ih ⊢
      rw [Nat.mul_add sep.length (r.length + 1) 1]
      omega

theorem compactUpTo_small (l : List (List UInt8)) (k : Nat) (hk : k ≤ l.length) : tot (Lib.compactUpTo l.toArray k) ≤ tot (l.take k) ∧ (Lib.compactUpTo l.toArray k).length ≤ k := by
  induction k with
  | zero => simp [Lib.compactUpTo, tot]
  | succ k ih =>
    have h := ih (by omega)
    have hlt : k < l.length := by omega
    have e : l.toArray[k]! = l[k] := by simp [hlt]
    rw [Lib.compactUpTo_succ, tot_append, List.length_append, tot_take_succ l k hlt, e]
    split
    · simp only [tot, List.length_cons, List.length_nil]; omega
    · simp only [tot, List.length_nil]; omega

theorem compactUpTo_ne (l : List (List UInt8)) (k : Nat) (h0 : 0 < k) : Lib.compactUpTo l.toArray k ≠ [] := by
  intro e
  have : l.toArray[0]! ∈ Lib.compactUpTo l.toArray k := (mem_compactUpTo _ _ _).2 ⟨0, h0, rfl⟩
  rw [e] at this
  cases this

/-- The element goes to its place. -/
theorem asc_insert {a b : List (List UInt8)} {x : List UInt8} (h : Asc (a ++ b)) (ha : ∀ y ∈ a, y ≤ x) (hb : ∀ y ∈ b, x ≤ y) : Asc (a ++ x :: b) := by
  unfold Asc at *
  rw [List.pairwise_append] at h ⊢
  refine ⟨h.1, List.pairwise_cons.2 ⟨hb, h.2.1⟩, fun y hy z hz => ?_⟩
  rcases List.mem_cons.1 hz with rfl | hz
  · exact ha y hy
  · exact h.2.2 y hy z hz

theorem asc_last {a : List (List UInt8)} {y : List UInt8} {b : List (List UInt8)} (h : Asc ((a ++ [y]) ++ b)) : ∀ z ∈ a ++ [y], z ≤ y := by
  intro z hz
  have h1 := (List.pairwise_append.1 h).1
  rcases List.mem_append.1 hz with h2 | h2
  · exact (List.pairwise_append.1 h1).2.2 z h2 y (List.mem_singleton.2 rfl)
  · rw [List.mem_singleton.1 h2]; exact List.le_refl _

theorem perm_mid (a b R : List (List UInt8)) (x : List UInt8) : (a ++ x :: (b ++ R)).Perm ((a ++ b) ++ x :: R) := by
  have h1 : (a ++ x :: (b ++ R)).Perm (x :: (a ++ (b ++ R))) := List.perm_middle
  have h2 : ((a ++ b) ++ x :: R).Perm (x :: ((a ++ b) ++ R)) := List.perm_middle
  rw [List.append_assoc a b R] at h2
  exact h1.trans h2.symm

theorem swap_set (a t : List (List UInt8)) (x y : List UInt8) :
    (((a ++ y :: x :: t).map encStr).set a.length (encStr x)).set (a.length + 1) (encStr y) = (a ++ x :: y :: t).map encStr := by
  simp only [List.map_append, List.map_cons]
  have hl : (a.map encStr).length = a.length := List.length_map _
  rw [List.set_append_right _ _ (by omega), hl, Nat.sub_self, List.set_cons_zero, List.set_append_right _ _ (by omega), hl, show a.length + 1 - a.length = 1 by omega]
  rfl

/-- A row's cells, by the list that it owns. -/
theorem own_get {w : World} {base g n cap : Nat} {l : List (List UInt8)} (h : w.ownsRow base 9 1 (.slice (some ⟨g, 0, none⟩) n cap) n (l.map encStr)) (j : Nat) (s : List UInt8) (hj : l[j]? = some s) :
    w.cell? ⟨g, j, none⟩ = some (encStr s) := by
  have hlt : j < l.length := (List.getElem?_eq_some_iff.1 hj).1
  have hn : l.length = n := by have := h.1; simpa using this
  rw [h.cellAt j (by omega), List.getElem?_map, hj]
  rfl

theorem own_len {w : World} {base n : Nat} {v : Value} {l : List (List UInt8)} (h : w.ownsRow base 9 1 v n (l.map encStr)) : l.length = n := by
  have := h.1; simpa using this
end Go.Proofs.Qxb6613348a
