/-
  THE WALKS OF '(methods).allowed' AND OF 'ZZallowed'.
-/
import Derived.Test.Qxb6613348aLib
import Derived.Maps.OwnSet
namespace Go.Proofs.Qxb6613348a
open Go.ChangeShapes Go.WideShapes Go.ChangeAt Go.RowKit Own Go.Maps Go.Sort Go.Shelf

/-- What the map's values are owned by: nothing is asked of them. -/
def anyVal : Value → Option (DataW Unit × List MemPlace) := fun _ => some (.agg [], [])

theorem mem_strKeys {w : World} {b n : Nat} {D : DataW Unit} (h : w.ownsMap Try.prog 9 anyVal b n D) (x : List UInt8) : x ∈ strKeys D ↔ Maps.has D (.string x) = true := by
  obtain ⟨es, rfl, hk⟩ := h.keysOf
  rw [has_eq, List.any_eq_true]
  show x ∈ (es.map fun p => strOf p.1) ↔ _
  rw [List.mem_map]
  have hks : ∀ p ∈ es, ∃ x, p.1 = .string x := fun p hp => by
    obtain ⟨v, hv⟩ := hk p hp
    obtain ⟨x, _, hx, _⟩ := Maps.keyOf_str Try.underlying9 hv
    exact ⟨x, hx⟩
  constructor
  · rintro ⟨p, hp', rfl⟩
    obtain ⟨a, ha⟩ := hks p hp'
    exact ⟨p, hp', by rw [ha]; simp [Lit.sameKey, strOf]⟩
  · rintro ⟨p, hp', hs⟩
    obtain ⟨a, ha⟩ := hks p hp'
    rw [ha] at hs
    exact ⟨p, hp', by rw [ha]; simpa [Lit.sameKey, strOf] using hs⟩

theorem key_str (x : List UInt8) (hx : x.length ≤ maxLen) : keyOf Try.prog 9 (encStr x) = some (.string x) := by
  simp [keyOf, Try.underlying9, mapKey, ByteArray.size, hx]

/-- 'v, ok := m["GET"]' on a map that is owned. -/
theorem look_get {w : World} {b n : Nat} {D : DataW Unit} (h : w.ownsMap Try.prog 9 anyVal b n D) :
    ∃ v, (Instr.lookup 29 (.map (some b)) (.string ⟨#[71, 69, 84]⟩) true).run Try.prog w = .ok (.tuple #[v, .bool (Maps.has D (.string sGET))]) w := by
  have hq : (Try.prog.info? 31).map (fun i => i.zero) = some (some .nilFunc) := by kernel_rfl
  obtain ⟨i, hi, hz⟩ := Option.map_eq_some_iff.1 hq
  have hzr : (zeroValue 31).run Try.prog w = .ok .nilFunc w := by simp [zeroValue, typeInfo, hi, hz]
  obtain ⟨v, ps, hr, _⟩ := h.look_ok (string_keyed Try.underlying9) Try.underlying29 hzr (zd := .agg []) (zp := []) rfl (key_str sGET (by decide))
  exact ⟨v, hr⟩

theorem tot_le {ss : List (List UInt8)} {M : Nat} (h : ∀ s ∈ ss, s.length ≤ M) : tot ss ≤ ss.length * M := by
  induction ss with
  | nil => simp [tot]
  | cons a r ih =>
    have h1 := ih (fun s hs => h s (List.mem_cons_of_mem _ hs))
    have h2 := h a (List.mem_cons_self ..)
    simp only [tot, List.length_cons, Nat.add_mul, Nat.one_mul]
    omega

theorem cells_at (w : World) (xs : List Value) (t : TypeId) : ∀ j u, xs[j]? = some u → (w.alloc (.cells xs.toArray t)).cell? ((⟨w.heap.size, 0, none⟩ : Addr).add j) = some u := by
  intro j u hj
  rw [Addr.add_lit]
  simp [go_sem, hj]

theorem strKeys_length {w : World} {b n : Nat} {D : DataW Unit} (h : w.ownsMap Try.prog 9 anyVal b n D) : (strKeys D).length ≤ n := by
  have h1 := h.size_le
  obtain ⟨es, rfl, _⟩ := h.keysOf
  rw [Maps.size_eq] at h1
  show (es.map fun p => strOf p.1).length ≤ n
  rw [List.length_map]; exact h1

set_option maxHeartbeats 1000000 in
/-- '(methods).allowed' where GET is among the keys. -/
theorem allowed_get (w : World) (b nn : Nat) (D : DataW Unit) (ns : List (List UInt8)) (hown : w.ownsMap Try.prog 9 anyVal b nn D) (hhas : ∀ x, Maps.has D (.string x) = true ↔ x ∈ ns) (hnn : nn ≤ 16384)
    (hx : ∀ x ∈ ns, x.length ≤ 1048576) (hG : sGET ∈ ns) :
    Calls Try.prog 11 #[.map (some b)] w fun e w' => e = .returned (.string ⟨(allow ns).toArray⟩) ∧ w.grownBy w' none := by
  obtain ⟨i0, hi, hz0, hz1, hz2⟩ := info_parts info9
  have hblt := hown.lt
  have hkl := strKeys_length hown
  have hsz := hown.size_le
  go_enter Try.func11, Try.ntmps11
  go_wp2_with fail
  refine (keysC _ _).mono ?_
  rintro e w1 ⟨rfl, rfl⟩
  go_wp2_with fail
  have hown1 := hown.alloc (.cells #[.map (some b)] 29)
  refine (collectC _ b nn w.heap.size D anyVal (by simp) (by simp [go_sem]) hown1 (by omega)).mono ?_
  rintro e w2 ⟨v, ss, rfl, hperm, hrow, hbel⟩
  have hmem : ∀ x, x ∈ ss ↔ x ∈ ns := fun x => by rw [hperm.mem_iff, mem_strKeys hown, hhas]
  have hssl : ss.length ≤ 16384 := by rw [hperm.length_eq]; omega
  have hown2 := hown1.kept (below_grown hbel) (by simp)
  obtain ⟨vg, hlook⟩ := look_get hown2
  rw [show Maps.has D (.string sGET) = true from (hhas sGET).2 hG] at hlook
  have hrow0 : w2.ownsRow w.heap.size 9 1 v ss.length (ss.map encStr) := ownsRow_mono hrow (by simp)
  have hgr2 : w.grownBy w2 none := grown_trans (World.grownBy_alloc w _ none) (below_grown hbel) (fun j e => by cases e)
  have hs2 : w.heap.size ≤ w2.heap.size := hgr2.size
  have HM : Hid (∀ x, x ∈ ss ↔ x ∈ ns) := hmem
  have HL : Hid (ss.length ≤ 16384) := hssl
  clear hperm hmem hown hown1 hown2 hhas hkl hsz hrow hbel
  go_wp2_with (at_builtin; refine wpList_append_strong _ rfl (.tmp 15) (.tmp 16) 22 rfl w.heap.size 9 i0 (.string ⟨#[]⟩) 1 16 Try.underlying22 hi hz0 hz1 hz2 rfl (by decide) v ss.length (ss.map encStr) rfl (hrow0.alloc _) ⟨w2.heap.size, 0, none⟩ 1 1 [.string ⟨#[72, 69, 65, 68]⟩] rfl rfl (cells_at _ _ _) (by simp [Value.oneCell']) (by have := HL.out; unfold maxLen; omega) (by have := HL.out; omega) (by simp; omega) ?_; intro v3 w3 ho3 hs3)
  obtain ⟨L, hL⟩ : ∃ L, L = ss ++ [sHEAD] := ⟨_, rfl⟩
  have hoL : w3.ownsRow w.heap.size 9 1 v3 L.length (L.map encStr) := by
    rw [hL, List.length_append, List.map_append]; exact ho3
  have hst : Step w2 w3 v v3 := (Step.alloc _ _ _).trans hs3
  have hgr3 : w.grownBy w3 none := grown_trans hgr2 hst.grown (fun j e => (hrow0.lt j e).1)
  have HC : Hid (canon L = canon (withHead ns)) := by
    rw [hL]
    exact canon_congr fun x => by
      rw [mem_withHead, List.mem_append, List.mem_singleton, HM.out x]
      simp [hG]
  have HN : Hid (L.length ≤ 16385 ∧ ∀ x ∈ L, x.length ≤ 1048576) := by
    rw [hL]
    refine ⟨by rw [List.length_append]; have := HL.out; simp; omega, fun x hxm => ?_⟩
    rcases List.mem_append.1 hxm with h | h
    · exact hx x ((HM.out x).1 h)
    · rw [List.mem_singleton.1 h]; decide
  clear hL hrow0 hlook hssl ho3 hs3 hst hgr2 hs2
  have hLn := HN.out.1
  refine (sortC _ _ v3 L (by omega) hoL).mono ?_
  rintro e w4 ⟨rfl, ho4, hg4⟩
  have hgr4 : w.grownBy w4 none := grown_trans hgr3 hg4 (fun j e => (hoL.lt j e).1)
  have HS : Hid ((L.mergeSort leB).length = L.length) := List.length_mergeSort ..
  rw [← HS.out] at ho4
  clear hoL hg4 hgr3
  go_wp2_with fail
  refine (compactC _ _ v3 (L.mergeSort leB) (by rw [HS.out]; omega) ho4).mono ?_
  rintro e w5 ⟨v5, rfl, ho5, hg5⟩
  have hgr5 : w.grownBy w5 none := grown_trans hgr4 hg5 (fun j e => (ho4.lt j e).1)
  have hcl : (Lib.compact (L.mergeSort leB)).length ≤ 16385 := by
    have h1 := (compactUpTo_small (L.mergeSort leB) _ (Nat.le_refl _)).2
    have h2 := HS.out
    exact Nat.le_trans h1 (by omega)
  have hct : tot (Lib.compact (L.mergeSort leB)) ≤ 1099511627776 := by
    have h1 := tot_le (ss := Lib.compact (L.mergeSort leB)) (M := 1048576) (fun s hs => HN.out.2 s (List.mem_mergeSort.1 ((mem_compact _ _).1 hs)))
    have h2 := Nat.mul_le_mul_right 1048576 hcl
    omega
  clear ho4 hg5 hgr4
  go_wp2_with fail
  refine (joinC _ _ v5 _ (by omega) hct ho5).mono ?_
  rintro e w6 ⟨rfl, hb6⟩
  have hgr6 : w.grownBy w6 none := grown_trans hgr5 (below_grown hb6) (fun j e => by cases e)
  have HJ : Hid (Lib.join (Lib.compact (L.mergeSort leB)) sSep = allow ns) := by
    show Lib.join (canon L) sSep = _
    rw [HC.out]
    rfl
  rw [HJ.out]
  clear ho5 hb6 hgr5 hcl hct
  go_wp2_with fail
  go_ret
  exact ⟨rfl, hgr6⟩

set_option maxHeartbeats 1000000 in
/-- '(methods).allowed' where GET is not among the keys. -/
theorem allowed_no (w : World) (b nn : Nat) (D : DataW Unit) (ns : List (List UInt8)) (hown : w.ownsMap Try.prog 9 anyVal b nn D) (hhas : ∀ x, Maps.has D (.string x) = true ↔ x ∈ ns) (hnn : nn ≤ 16384)
    (hx : ∀ x ∈ ns, x.length ≤ 1048576) (hG : ¬ sGET ∈ ns) :
    Calls Try.prog 11 #[.map (some b)] w fun e w' => e = .returned (.string ⟨(allow ns).toArray⟩) ∧ w.grownBy w' none := by
  have hblt := hown.lt
  have hkl := strKeys_length hown
  have hsz := hown.size_le
  go_enter Try.func11, Try.ntmps11
  go_wp2_with fail
  refine (keysC _ _).mono ?_
  rintro e w1 ⟨rfl, rfl⟩
  go_wp2_with fail
  have hown1 := hown.alloc (.cells #[.map (some b)] 29)
  refine (collectC _ b nn w.heap.size D anyVal (by simp) (by simp [go_sem]) hown1 (by omega)).mono ?_
  rintro e w2 ⟨v, ss, rfl, hperm, hrow, hbel⟩
  have hmem : ∀ x, x ∈ ss ↔ x ∈ ns := fun x => by rw [hperm.mem_iff, mem_strKeys hown, hhas]
  have hssl : ss.length ≤ 16384 := by rw [hperm.length_eq]; omega
  have hown2 := hown1.kept (below_grown hbel) (by simp)
  obtain ⟨vg, hlook⟩ := look_get hown2
  have hno : Maps.has D (.string sGET) = false := by
    cases h : Maps.has D (.string sGET) with
    | false => rfl
    | true => exact absurd ((hhas sGET).1 h) hG
  rw [hno] at hlook
  have hrow0 : w2.ownsRow w.heap.size 9 1 v ss.length (ss.map encStr) := ownsRow_mono hrow (by simp)
  have hgr2 : w.grownBy w2 none := grown_trans (World.grownBy_alloc w _ none) (below_grown hbel) (fun j e => by cases e)
  have HM : Hid (∀ x, x ∈ ss ↔ x ∈ ns) := hmem
  have HL : Hid (ss.length ≤ 16384) := hssl
  clear hperm hmem hown hown1 hown2 hhas hkl hsz hrow hbel hno
  go_wp2_with fail
  obtain ⟨L, hL⟩ : ∃ L, L = ss := ⟨_, rfl⟩
  have hoL : w2.ownsRow w.heap.size 9 1 v L.length (L.map encStr) := by
    rw [hL]; exact hrow0
  have hgr3 : w.grownBy w2 none := hgr2
  have HC : Hid (canon L = canon (withHead ns)) := by
    rw [hL]
    exact canon_congr fun x => by
      rw [mem_withHead, HM.out x]
      simp [hG]
  have HN : Hid (L.length ≤ 16385 ∧ ∀ x ∈ L, x.length ≤ 1048576) := by
    rw [hL]
    exact ⟨by have := HL.out; omega, fun x hxm => hx x ((HM.out x).1 hxm)⟩
  clear hL hrow0 hlook hssl hgr2
  have hLn := HN.out.1
  refine (sortC _ _ v L (by omega) hoL).mono ?_
  rintro e w4 ⟨rfl, ho4, hg4⟩
  have hgr4 : w.grownBy w4 none := grown_trans hgr3 hg4 (fun j e => (hoL.lt j e).1)
  have HS : Hid ((L.mergeSort leB).length = L.length) := List.length_mergeSort ..
  rw [← HS.out] at ho4
  clear hoL hg4 hgr3
  go_wp2_with fail
  refine (compactC _ _ v (L.mergeSort leB) (by rw [HS.out]; omega) ho4).mono ?_
  rintro e w5 ⟨v5, rfl, ho5, hg5⟩
  have hgr5 : w.grownBy w5 none := grown_trans hgr4 hg5 (fun j e => (ho4.lt j e).1)
  have hcl : (Lib.compact (L.mergeSort leB)).length ≤ 16385 := by
    have h1 := (compactUpTo_small (L.mergeSort leB) _ (Nat.le_refl _)).2
    have h2 := HS.out
    exact Nat.le_trans h1 (by omega)
  have hct : tot (Lib.compact (L.mergeSort leB)) ≤ 1099511627776 := by
    have h1 := tot_le (ss := Lib.compact (L.mergeSort leB)) (M := 1048576) (fun s hs => HN.out.2 s (List.mem_mergeSort.1 ((mem_compact _ _).1 hs)))
    have h2 := Nat.mul_le_mul_right 1048576 hcl
    omega
  clear ho4 hg5 hgr4
  go_wp2_with fail
  refine (joinC _ _ v5 _ (by omega) hct ho5).mono ?_
  rintro e w6 ⟨rfl, hb6⟩
  have hgr6 : w.grownBy w6 none := grown_trans hgr5 (below_grown hb6) (fun j e => by cases e)
  have HJ : Hid (Lib.join (Lib.compact (L.mergeSort leB)) sSep = allow ns) := by
    show Lib.join (canon L) sSep = _
    rw [HC.out]
    rfl
  rw [HJ.out]
  clear ho5 hb6 hgr5 hcl hct
  go_wp2_with fail
  go_ret
  exact ⟨rfl, hgr6⟩

/-- '(methods).allowed': the Allow value of the names that are the map's keys. -/
theorem allowed (w : World) (b nn : Nat) (D : DataW Unit) (ns : List (List UInt8)) (hown : w.ownsMap Try.prog 9 anyVal b nn D) (hhas : ∀ x, Maps.has D (.string x) = true ↔ x ∈ ns) (hnn : nn ≤ 16384)
    (hx : ∀ x ∈ ns, x.length ≤ 1048576) :
    Calls Try.prog 11 #[.map (some b)] w fun e w' => e = .returned (.string ⟨(allow ns).toArray⟩) ∧ w.grownBy w' none := by
  by_cases hG : sGET ∈ ns
  · exact allowed_get w b nn D ns hown hhas hnn hx hG
  · exact allowed_no w b nn D ns hown hhas hnn hx hG

end Go.Proofs.Qxb6613348a
