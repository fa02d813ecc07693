/-
  THE LIBRARY's CONTRACTS IN THE WORDS OF THE ROWS THAT THE CALL OWNS: maps.Keys, slices.Collect, slices.Sort, slices.Compact, strings.Join.
-/
import Derived.Test.Qxb6613348aRows
import Derived.Test.Qxb6613348aShelf
import Derived.Test.Qxb6613348aClone
import Derived.Test.Qxb6613348aSortP
import Derived.Sort.OwnSorted
namespace Go.Proofs.Qxb6613348a
open Go.ChangeShapes Go.WideShapes Go.ChangeAt Go.RowKit Own Go.Maps Go.Sort Go.Shelf

theorem keysC (mb : Option Nat) (W : World) : Calls Try.prog 13 #[.map mb] W fun e w' => e = .returned (.func (.func 18) #[] #[.pointer (some ⟨W.heap.size, 0, none⟩)]) ∧ w' = W.alloc (.cells #[.map mb] 29) :=
  (callsIn_wide (n := 5)).1 (AnyZ.keys_in Try.keysA Fence.wide 5 trivial rfl mb W)

theorem collectC {H : Type} (w : World) (b nn Bm : Nat) (D : DataW H) (R : Value → Option (DataW H × List MemPlace)) (hBm : Bm < w.heap.size) (hm : w.cell? ⟨Bm, 0, none⟩ = some (.map (some b))) (hown : w.ownsMap Try.prog 9 R b nn D) (hN : Maps.size D ≤ 1048576) :
    Calls Try.prog 12 #[.func (.func 18) #[] #[.pointer (some ⟨Bm, 0, none⟩)]] w fun e w' => ∃ (v : Value) (ss : List (List UInt8)), e = .returned v ∧ ss.Perm (strKeys D) ∧ w'.ownsRow w.heap.size 9 1 v ss.length (ss.map encStr) ∧ Below w.heap.size w w' := by
  refine (callsIn_wide (n := 5)).1 ?_
  have hseq : SeqGives Fence.wide 3 Try.prog 18 #[.pointer (some ⟨Bm, 0, none⟩)] encStr (fun ss => ss.Perm (strKeys D)) (Maps.size D) w :=
    AnyZ.keys_gives (ρ := Try.keysA_ren) { Try.keysA with } Fence.wide _ trivial rfl (by omega) Bm b nn D w hBm hm hown
  refine (AnyZ.collect_in Try.collectA Fence.wide 5 trivial trivial rfl (by omega) 18 #[.pointer (some ⟨Bm, 0, none⟩)] trivial (enters_of Try.func18 (by kernel_rfl) rfl) _ _ (by unfold maxLen; omega) (by omega) w hseq).mono ?_
  rintro e w' ⟨v, ss, rfl, h1, h2, _, h4⟩
  exact ⟨v, ss, rfl, h1, h2, h4⟩

/-- slices.Sort at a row that the call owns. -/
theorem sortC (w : World) (base : Nat) (v : Value) (ss : List (List UInt8)) (hn : ss.length ≤ 1048576) (ho : w.ownsRow base 9 1 v ss.length (ss.map encStr)) :
    Calls Try.prog 14 #[v] w fun e w' => e = .returned (.tuple #[]) ∧ w'.ownsRow base 9 1 v ss.length ((ss.mergeSort leB).map encStr) ∧ w.grownBy w' v.ownBlock := by
  rcases ho.2 with ⟨rfl, hz⟩ | ⟨g, cap, cur, rfl, hbase, hb, r1, r2, r3, r4⟩
  · have hss : ss = [] := List.eq_nil_of_length_eq_zero hz
    subst hss
    refine (Try.slices_Sort_string_none none 0 w).mono ?_
    rintro e w' ⟨rfl, rfl⟩
    exact ⟨rfl, by simpa using ho, grownBy_refl _ _⟩
  · refine (Try.slices_Sort_string g 0 cap ss w (holds_of_block hb (by simpa using r4)) (Array.getElem?_eq_some_iff.1 hb).1 (by omega)).mono ?_
    rintro e w' ⟨rfl, nn, os, rfl⟩
    exact ⟨rfl, ownsRow_sorted (by simp) hbase hb r1 r2 r3, grownBy_sorted _⟩

theorem own_take {w : World} {base g n cap k : Nat} {e : TypeId} {xs : List Value} (h : w.ownsRow base e 1 (.slice (some ⟨g, 0, none⟩) n cap) n xs) (hk : k ≤ n) :
    w.ownsRow base e 1 (.slice (some ⟨g, 0, none⟩) k cap) k (xs.take k) := by
  have hl : xs.length = n := by have := h.1; omega
  refine ⟨by rw [List.length_take]; omega, ?_⟩
  rcases h.2 with ⟨h', _⟩ | ⟨g', cap', cur, h', h1, h2, h3, h4, h5, h6⟩
  · cases h'
  · cases h'
    refine .inr ⟨g, cap, cur, rfl, h1, h2, by omega, h4, h5, ?_⟩
    rw [← h6, List.take_take]
    congr 1
    omega

/-- slices.Compact at a row that the call owns. -/
theorem compactC (w : World) (base : Nat) (v : Value) (ss : List (List UInt8)) (hn : ss.length ≤ 1048576) (ho : w.ownsRow base 9 1 v ss.length (ss.map encStr)) :
    Calls Try.prog 16 #[v] w fun e w' => ∃ v', e = .returned v' ∧ w'.ownsRow base 9 1 v' (Lib.compact ss).length ((Lib.compact ss).map encStr) ∧ w.grownBy w' v.ownBlock := by
  have hcl : (Lib.compact ss).length ≤ ss.length := (compactUpTo_small ss ss.length (Nat.le_refl _)).2
  rcases ho.2 with ⟨rfl, hz⟩ | ⟨g, cap, cur, rfl, hbase, hb, r1, r2, r3, r4⟩
  · have hss : ss = [] := List.eq_nil_of_length_eq_zero hz
    subst hss
    refine (Try.slices_Compact_string_empty none 0 w).mono ?_
    rintro e w' ⟨rfl, rfl⟩
    exact ⟨_, rfl, World.ownsRow_nil _ _ _ _, grownBy_refl _ _⟩
  · refine (Try.slices_Compact_string g 0 cap ss w (holds_of_block hb (by simpa using r4)) (by omega) r1).mono ?_
    rintro e w' ⟨rfl, nn, rfl⟩
    have hts : (Lib.compact ss ++ List.replicate (ss.length - (Lib.compact ss).length) ([] : List UInt8)).length = ss.length := by
      rw [List.length_append, List.length_replicate]; omega
    have h1 := ownsRow_sorted (n := nn) (os := #[]) hts hbase hb r1 r2 r3
    have h2 := grownBy_sorted (w := w) (g := g) (n := nn) (os := #[]) (Lib.compact ss ++ List.replicate (ss.length - (Lib.compact ss).length) ([] : List UInt8)).toArray
    rw [grow_empty] at h1 h2
    refine ⟨_, rfl, ?_, h2⟩
    have h3 := own_take h1 hcl
    rw [List.map_append, List.take_left' (by rw [List.length_map])] at h3
    exact h3

/-- strings.Join at a row that the call owns. -/
theorem joinC (w : World) (base : Nat) (v : Value) (ss : List (List UInt8)) (hn : ss.length ≤ 1048576) (ht : tot ss ≤ 1099511627776) (ho : w.ownsRow base 9 1 v ss.length (ss.map encStr)) :
    Calls Try.prog 15 #[v, .string ⟨#[44, 32]⟩] w fun e w' => e = .returned (.string ⟨(Lib.join ss sSep).toArray⟩) ∧ Below w.heap.size w w' := by
  have hmap : (ss.map (fun s => (⟨s.toArray⟩ : ByteArray))).map (·.data.toList) = ss := by
    rw [List.map_map]
    conv => rhs; rw [← List.map_id ss]
    rfl
  rcases ho.2 with ⟨rfl, hz⟩ | ⟨g, cap, cur, rfl, hbase, hb, r1, r2, r3, r4⟩
  · have hss : ss = [] := List.eq_nil_of_length_eq_zero hz
    subst hss
    refine (Try.strings_Join_none none 0 ⟨#[44, 32]⟩ w).mono ?_
    rintro e w' ⟨rfl, rfl⟩
    exact ⟨rfl, Below.refl _ _⟩
  · have hjl := join_len ss sSep
    have h4 : sSep.length = 2 := rfl
    rw [h4] at hjl
    have hcells : ∀ (j : Nat) x, (ss.map (fun s => (⟨s.toArray⟩ : ByteArray)))[j]? = some x → w.cell? ⟨g, 0 + j, none⟩ = some (.string x) := by
      intro j x hj
      rw [List.getElem?_map] at hj
      obtain ⟨s, hs, rfl⟩ := Option.map_eq_some_iff.1 hj
      rw [Nat.zero_add]
      exact own_get ho j s hs
    have hlen : (ss.map (fun s => (⟨s.toArray⟩ : ByteArray))).length = ss.length := List.length_map _
    have hJ := Try.strings_Join g 0 cap (ss.map (fun s => (⟨s.toArray⟩ : ByteArray))) ⟨#[44, 32]⟩ w hcells (Array.getElem?_eq_some_iff.1 hb).1 (by rw [hlen]; omega) (by rw [hlen]; exact r1)
      (by rw [hmap]; show (Lib.join ss sSep).length ≤ _; omega)
    rw [hlen, hmap] at hJ
    exact hJ
end Go.Proofs.Qxb6613348a
