/-
  THE WALK OF 'ZZallowed': the table is built, then asked.
-/
import Derived.Test.Qxb6613348aAllowed
namespace Go.Proofs.Qxb6613348a
open Go.ChangeShapes Go.WideShapes Go.ChangeAt Go.RowKit Own Go.Maps Go.Sort Go.Shelf

theorem make29 (n : Nat) (w : World) : (Instr.makeMap 29 (some (.int .i64 (n : Int)))).run Try.prog w = .ok (.map (some w.heap.size)) (w.alloc (.map #[] 0)) := by
  simp [Instr.makeMap, run_underlying Try.underlying29, asInt, asIntOf]

theorem mem_take_step (ns : List (List UInt8)) (k : Nat) (h : k < ns.length) (x : List UInt8) : (x ∈ ns.take (k + 1)) ↔ (x ∈ ns.take k ∨ x = ns[k]) := by
  rw [List.take_succ_eq_append_getElem h, List.mem_append, List.mem_singleton]

theorem has_step (ns : List (List UInt8)) (k : Nat) (h : k < ns.length) (D : DataW Unit) (hD : IsMap D) (hh : ∀ x, Maps.has D (.string x) = true ↔ x ∈ ns.take k) :
    ∀ x, Maps.has (D.put (.string ns[k]) (.agg [])) (.string x) = true ↔ x ∈ ns.take (k + 1) := by
  intro x
  rw [mem_take_step ns k h x]
  by_cases hx : x = ns[k]
  · subst hx
    rw [has_put_same hD (by simp [WideAt.IsKeyLit])]
    simp
  · rw [has_put_other (by intro e; exact hx (by injection e)), hh x]
    simp [hx]

set_option maxHeartbeats 1000000 in
theorem zzAllowed (w : World) (o : Option Addr) (c : Nat) (ns : List (List UInt8)) (hn : ns.length ≤ 16384) (hx : ∀ x ∈ ns, x.length ≤ 1048576) (hr : Reads w o ns) :
    Calls Try.prog 9 #[.slice o ns.length c] w fun e w' => e = .returned (.string ⟨(allow ns).toArray⟩) ∧ w.grownBy w' none := by
  have hmm := make29 ns.length
  go_enter Try.func9, Try.ntmps9
  go_wp2
  go_loopw [11] (fun i wr => ∃ k : Nat, k ≤ ns.length ∧ i = .int .i64 (k : Int) ∧ ∃ D : DataW Unit, wr.ownsMap Try.prog 9 anyVal w.heap.size k D ∧ (∀ x, Maps.has D (.string x) = true ↔ x ∈ ns.take k) ∧ w.grownBy wr none)
    (fun i _ => ns.length - (intOf i).toNat)
  case atStart =>
    refine ⟨0, Nat.zero_le _, rfl, .map [], World.ownsMap_made w Try.prog 9 anyVal, fun x => ?_, World.grownBy_alloc w _ none⟩
    simp [Maps.has]
  case round =>
    clear hmm
    obtain ⟨k, hk, rfl, D, hown, hhas, hg⟩ := hrel
    by_cases hlt : k < ns.length
    · obtain ⟨x, rfl, hc0⟩ := hr k ns[k] (List.getElem?_eq_getElem hlt)
      have hc : wr.cell? (x.add k) = some (encStr ns[k]) := hg.cell hc0 (by simp)
      have hkl : ns[k].length ≤ maxLen := by have := hx ns[k] (List.getElem_mem hlt); unfold maxLen; omega
      have HS : Hid (∀ x, Maps.has (D.put (.string ns[k]) (.agg [])) (.string x) = true ↔ x ∈ ns.take (k + 1)) := has_step ns k hlt D hown.isMap hhas
      clear hc0 hhas
      go_wp2_with (refine wpList_mapUpdate_own _ rfl (.tmp 15) (.tmp 16) _ 29 rfl 9 31 (string_keyed Try.underlying9) Try.underlying29 anyVal w.heap.size k D rfl hown (by unfold maxLen; omega) (encStr ns[k]) .nilFunc (.string ns[k]) rfl rfl (key_str _ hkl) (.agg []) [] rfl ?_; intro w2 hown2 hg2)
      go_roundw
      case rel => exact ⟨k + 1, by omega, by go_num, _, hown2, HS.out, grown_trans hg hg2 (fun j e => by cases e; exact Nat.le_refl _)⟩
      case measure => simp [intOf]; omega
    · obtain rfl : k = ns.length := by omega
      rw [List.take_length] at hhas
      go_wp2_with fail
      refine (allowed _ w.heap.size ns.length D ns hown hhas hn hx).mono ?_
      rintro e w3 ⟨rfl, hg3⟩
      have hgr : w.grownBy w3 none := grown_trans hg hg3 (fun j e => by cases e)
      clear hown hhas hg hg3
      go_wp2_with fail
      go_ret
      exact ⟨rfl, hgr⟩
end Go.Proofs.Qxb6613348a
