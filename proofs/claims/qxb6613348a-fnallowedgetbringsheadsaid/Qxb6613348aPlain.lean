/-
  PLAIN: the sorted list without repeats depends on the members alone; the Allow value. No Go text.
-/
import Derived.Sort.KeysCollected
import Derived.Lib.SlicesCompact
import Derived.Lib.Join
namespace Go.Proofs.Qxb6613348a
open Go.Lib

theorem leB_trans (a b c : List UInt8) (h1 : leB a b = true) (h2 : leB b c = true) : leB a c = true := by
  simp only [leB, decide_eq_true_eq] at *; exact List.le_trans h1 h2
theorem leB_total (a b : List UInt8) : (leB a b || leB b a) = true := by
  simp only [leB, Bool.or_eq_true, decide_eq_true_eq]; exact List.le_total a b

/-- A list whose pairs stand so stands so by any weaker word. -/
theorem pairs_weaken {α : Type} {R S : α → α → Prop} (h : ∀ a b, R a b → S a b) {l : List α} (hl : l.Pairwise R) : l.Pairwise S := by
  induction l with
  | nil => exact List.Pairwise.nil
  | cons x l ih =>
    rw [List.pairwise_cons] at hl ⊢
    exact ⟨fun y hy => h _ _ (hl.1 y hy), ih hl.2⟩

/-- Ascending. -/
def Asc (l : List (List UInt8)) : Prop := l.Pairwise (fun a b => a ≤ b)

theorem asc_mergeSort (l : List (List UInt8)) : Asc (l.mergeSort leB) := by
  have h := List.pairwise_mergeSort leB_trans leB_total l
  exact pairs_weaken (fun a b hab => by simpa [leB] using hab) h

/-- Ascending lists of the same elements are one list. -/
theorem asc_unique {a b : List (List UInt8)} (ha : Asc a) (hb : Asc b) (hp : a.Perm b) : a = b :=
  List.Perm.eq_of_pairwise (fun _ _ _ _ h1 h2 => List.le_antisymm h1 h2) ha hb hp

theorem mem_compactUpTo (d : Array (List UInt8)) (m : Nat) : ∀ x, x ∈ compactUpTo d m ↔ ∃ j, j < m ∧ d[j]! = x := by
  induction m with
  | zero => intro x; simp [compactUpTo]
  | succ m ih =>
    intro x
    rw [compactUpTo_succ, List.mem_append, ih x]
    constructor
    · rintro (⟨j, hj, e⟩ | h)
      · exact ⟨j, by omega, e⟩
      · split at h
        · exact ⟨m, by omega, by simpa using (List.mem_singleton.1 h).symm⟩
        · cases h
    · rintro ⟨j, hj, e⟩
      by_cases hjm : j < m
      · exact .inl ⟨j, hjm, e⟩
      · obtain rfl : j = m := by omega
        by_cases hk : keeps d j = true
        · exact .inr (by rw [if_pos hk]; exact List.mem_singleton.2 e.symm)
        · have hk' : ¬ (j = 0 ∨ d[j]! ≠ d[j - 1]!) := by simpa [keeps] using hk
          have h0 : j ≠ 0 := fun h => hk' (.inl h)
          have h1 : d[j]! = d[j - 1]! := Decidable.byContradiction fun h => hk' (.inr h)
          exact .inl ⟨j - 1, by omega, by rw [← h1]; exact e⟩

/-- d is ascending: stated by places. -/
def AscD (d : Array (List UInt8)) (n : Nat) : Prop := ∀ i j, i ≤ j → j < n → d[i]! ≤ d[j]!

theorem compact_strict (d : Array (List UInt8)) (n : Nat) (hd : AscD d n) (m : Nat) (hm : m ≤ n) : (compactUpTo d m).Pairwise (fun a b => a < b) := by
  induction m with
  | zero => simp [compactUpTo]
  | succ m ih =>
    rw [compactUpTo_succ, List.pairwise_append]
    refine ⟨ih (by omega), by split <;> simp, ?_⟩
    intro a ha b hb
    split at hb
    · rename_i hk
      obtain ⟨j, hj, rfl⟩ := (mem_compactUpTo d m a).1 ha
      obtain rfl := List.mem_singleton.1 hb
      have hk' : m = 0 ∨ d[m]! ≠ d[m - 1]! := by simpa [keeps] using hk
      have h1 : d[m]! ≠ d[m - 1]! := by
        rcases hk' with h | h
        · omega
        · exact h
      have h2 : d[j]! ≤ d[m - 1]! := hd j (m - 1) (by omega) (by omega)
      have h3 : d[m - 1]! ≤ d[m]! := hd (m - 1) m (by omega) (by omega)
      have h4 : d[m - 1]! < d[m]! := by
        refine Decidable.byContradiction fun h => ?_
        exact h1 (List.le_antisymm (List.not_lt.1 h) h3)
      exact List.lt_of_le_of_lt h2 h4
    · cases hb

theorem ascD_of (l : List (List UInt8)) (h : Asc l) : AscD l.toArray l.length := by
  intro i j hij hj
  have hi : i < l.length := by omega
  have e1 : l.toArray[i]! = l[i] := by simp [hi]
  have e2 : l.toArray[j]! = l[j] := by simp [hj]
  rw [e1, e2]
  by_cases hlt : i < j
  · exact List.pairwise_iff_getElem.1 h i j hi hj hlt
  · obtain rfl : i = j := by omega
    exact List.le_refl _

theorem mem_compact (l : List (List UInt8)) (x : List UInt8) : x ∈ Lib.compact l ↔ x ∈ l := by
  show x ∈ compactUpTo l.toArray l.length ↔ _
  rw [mem_compactUpTo]
  constructor
  · rintro ⟨j, hj, rfl⟩
    have e1 : l.toArray[j]! = l[j] := by simp [hj]
    rw [e1]
    exact List.getElem_mem hj
  · intro h
    obtain ⟨j, hj, rfl⟩ := List.mem_iff_getElem.1 h
    exact ⟨j, hj, by simp [hj]⟩

/-- The sorted list without repeats. -/
def canon (xs : List (List UInt8)) : List (List UInt8) := Lib.compact (xs.mergeSort leB)

theorem canon_strict (xs : List (List UInt8)) : (canon xs).Pairwise (fun a b => a < b) :=
  compact_strict _ _ (ascD_of _ (asc_mergeSort xs)) _ (Nat.le_refl _)
theorem mem_canon (xs : List (List UInt8)) (x : List UInt8) : x ∈ canon xs ↔ x ∈ xs := by
  unfold canon
  rw [mem_compact, List.mem_mergeSort]

/-- It depends on the members alone. -/
theorem canon_congr {xs ys : List (List UInt8)} (h : ∀ x, x ∈ xs ↔ x ∈ ys) : canon xs = canon ys := by
  have nd : ∀ zs, (canon zs).Nodup := fun zs => pairs_weaken (fun a b hab e => by subst e; exact absurd hab (List.lt_irrefl _)) (canon_strict zs)
  have hp : (canon xs).Perm (canon ys) := (List.perm_ext_iff_of_nodup (nd xs) (nd ys)).2 fun x => by rw [mem_canon, mem_canon, h x]
  exact asc_unique (pairs_weaken (fun a b hab => List.le_of_lt hab) (canon_strict xs)) (pairs_weaken (fun a b hab => List.le_of_lt hab) (canon_strict ys)) hp

/-- "GET", "HEAD", the separator. -/
def sGET : List UInt8 := [71, 69, 84]
def sHEAD : List UInt8 := [72, 69, 65, 68]
def sSep : List UInt8 := [44, 32]

/-- The names, and HEAD where GET is. -/
def withHead (ns : List (List UInt8)) : List (List UInt8) := if sGET ∈ ns then ns ++ [sHEAD] else ns

/-- The Allow value. -/
def allow (ns : List (List UInt8)) : List UInt8 := Lib.join (canon (withHead ns)) sSep

theorem mem_withHead (ns : List (List UInt8)) (x : List UInt8) : x ∈ withHead ns ↔ x ∈ ns ∨ (x = sHEAD ∧ sGET ∈ ns) := by
  unfold withHead
  split
  · rename_i h
    simp [h]
  · rename_i h
    simp [h]

theorem allow_congr {xs ys : List (List UInt8)} (h : ∀ x, x ∈ xs ↔ x ∈ ys) : allow xs = allow ys := by
  unfold allow
  rw [canon_congr (ys := withHead ys) (fun x => by rw [mem_withHead, mem_withHead, h x, h sGET])]

theorem allow_shuffled (ns : List (List UInt8)) : allow (ns.reverse ++ ns) = allow ns := allow_congr fun x => by simp

theorem allow_head (ns a b : List (List UInt8)) (ha : ∀ x, x ∈ a ↔ x ∈ ns ∨ x = sGET) (hb : ∀ x, x ∈ b ↔ x ∈ ns ∨ x = sGET ∨ x = sHEAD) : allow a = allow b := by
  unfold allow
  rw [canon_congr (ys := withHead b) (fun x => by
    rw [mem_withHead, mem_withHead, ha x, hb x, ha sGET, hb sGET]
    constructor
    · rintro ((h | h) | ⟨h, _⟩)
      · exact .inl (.inl h)
      · exact .inl (.inr (.inl h))
      · exact .inl (.inr (.inr h))
    · rintro ((h | h | h) | ⟨h, _⟩)
      · exact .inl (.inl h)
      · exact .inl (.inr h)
      · exact .inr ⟨h, .inr rfl⟩
      · exact .inr ⟨h, .inr rfl⟩)]

end Go.Proofs.Qxb6613348a
