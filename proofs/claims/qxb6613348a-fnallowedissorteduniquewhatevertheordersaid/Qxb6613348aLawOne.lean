/-
  THE MAIN WALK OF 'FnAllowedIsSortedUniqueWhateverTheOrder'.
-/
import Derived.Test.Qxb6613348aLawTwo
namespace Go.Proofs.Qxb6613348a
open Go.ChangeShapes Go.WideShapes Go.ChangeAt Go.RowKit Own

theorem take_rev (ns : List (List UInt8)) (k j : Nat) (h : k + (j + 1) = ns.length) (hj : j < ns.length) : (ns.reverse.take (k + 1)).map encStr = (ns.reverse.take k).map encStr ++ [encStr ns[j]] := by
  have hk : k < ns.reverse.length := by rw [List.length_reverse]; omega
  rw [List.take_succ_eq_append_getElem hk, List.map_append, List.map_cons, List.map_nil, List.getElem_reverse]
  have e : ns.length - 1 - k = j := by omega
  simp only [e]

set_option maxHeartbeats 4000000 in
set_option maxRecDepth 100000 in
theorem one_yes (w : World) (o : Option Addr) (c : Nat) (ns : List (List UInt8)) (hn : ns.length ≤ 4096) (ht : ns.length + tot ns ≤ 1048576) (hs : ∀ s ∈ ns, s.length ≤ maxLen) (hr : Reads w o ns) :
    Calls Try.prog 3 #[.slice o ns.length c] w fun e w' => e = .returned (.bool true) ∧ w.grownBy w' none := by
  obtain ⟨i0, hi, hz0, hz1, hz2⟩ := info_parts info9
  have hml : ∀ x ∈ ns, x.length ≤ 1048576 := fun x hx => by have := tot_mem hx; omega
  have hb := zzBytes5 w o c ns (by unfold maxLen; omega) hs hr
  rw [decide_eq_true ht] at hb
  have HB : Hid (Calls Try.prog 5 #[.slice o ns.length c] w fun e w' => e = .returned (.bool true) ∧ w' = w) := hb
  have HA : Hid (Calls Try.prog 6 #[.int .i64 0, .slice o ns.length c] w fun e w' => (∃ t : Int, e = .returned (.int .i64 t)) ∧ w' = w) := addBytes w o c ns hn ht hr
  clear hb
  go_enter Try.func3, Try.ntmps3
  go_wp2_with fail
  refine HB.out.mono ?_
  rintro e w' ⟨rfl, rfl⟩
  go_wp2_with fail
  refine HA.out.mono ?_
  rintro e w' ⟨⟨t, rfl⟩, rfl⟩
  clear HA HB
  by_cases hbig : 1048576 < t
  · go_wp2_with fail
    go_ret
    exact ⟨rfl, grownBy_refl _ _⟩
  · go_wp2_with fail
    refine (clone _ o c ns (by omega) hr).mono ?_
    rintro e w1 ⟨v1, rfl, ov1, gw1⟩
    obtain ⟨o1, c1, rfl, ho1, R1⟩ := own_full ov1
    clear hr ov1
    go_wp2_with fail
    refine (clone _ o1 c1 ns (by omega) R1).mono ?_
    rintro e w2 ⟨v2, rfl, ov2, gw2⟩
    obtain ⟨o2, c2, rfl, ho2, R2⟩ := own_full ov2
    clear ov2
    go_wp2_with fail
    refine (model w2 o2 c2 ns (by omega) (by omega) R2).mono ?_
    rintro e w3 ⟨rfl, gw3⟩
    have G13 : w1.grownBy w3 none := grown_new gw2 gw3
    have hB : w'.heap.size ≤ w3.heap.size := Nat.le_trans gw1.size G13.size
    clear R2 gw2 gw3 ho2
    generalize hA : allow ns = A
    have HA : Hid (allow ns = A) := hA
    clear hA
    go_wp2_with (refine wpList_make_own _ rfl _ (.tmp 24) 22 rfl w'.heap.size 9 i0 (.string ⟨#[]⟩) 1 Try.underlying22 hi hz0 hz1 .i64 .i64 (2 * (ns.length : Int)) (2 * ns.length) rfl rfl (by omega) (by rw [hz2]; omega) (by unfold maxLen; omega) hB ?_; intro w4 a4 gw4)
    go_loopw [4, 5] (fun s i wr => ∃ k m : Nat, k + m = ns.length ∧ i = .int .i64 ((m : Int) - 1) ∧ s = .slice (some ⟨w3.heap.size, 0, none⟩) k (2 * ns.length) ∧ wr.ownsRow w'.heap.size 9 1 s k ((ns.reverse.take k).map encStr) ∧ w3.grownBy wr none)
      (fun _ i _ => (intOf i + 1).toNat)
    case atStart =>
      exact ⟨0, ns.length, by omega, by go_num, rfl, a4, gw4⟩
    case round =>
      obtain ⟨k, m, hkm, rfl, rfl, hown, hg⟩ := hrel
      rcases m with _ | j
      · obtain rfl : k = ns.length := by omega
        rw [List.take_of_length_le (by simp)] at hown
        go_wp2_with (at_builtin; refine wpList_append_fits_any _ rfl (.tmp 40) (.tmp 41) 22 rfl w'.heap.size 9 i0 1 Try.underlying22 hi hz1 w3.heap.size ns.length (2 * ns.length) (ns.reverse.map encStr) rfl hown o1 ns.length c1 (ns.map encStr) rfl (by simp) ho1 (reads_cells (R1.new (grown_new G13 hg))) (oneCell_strs _) (by omega) ?_; intro w5 a5 gw5)
        have A5 : w5.ownsRow w'.heap.size 9 1 (.slice (some ⟨w3.heap.size, 0, none⟩) (ns.length + ns.length) (2 * ns.length)) (ns.length + ns.length) ((ns.reverse ++ ns).map encStr) := by
          rw [List.map_append]; exact a5
        have G35 : w3.grownBy w5 none := grown_some hg gw5 (Nat.le_refl _)
        have R15 := R1.new (grown_new G13 G35)
        refine (clone w5 o1 c1 ns (by omega) R15).mono ?_
        rintro e w6 ⟨v6, rfl, ov6, gw6⟩
        obtain ⟨o6, c6, rfl, ho6, R6⟩ := own_full ov6
        clear ov6 a5 gw5 hown hg R15
        go_wp2_with fail
        refine (zzAllowed w6 o6 c6 ns (by omega) hml R6).mono ?_
        rintro e w7 ⟨rfl, gw7⟩
        have hlen : (ns.reverse ++ ns).length = ns.length + ns.length := by simp
        have hY := zzAllowed w7 (some ⟨w3.heap.size, 0, none⟩) (2 * ns.length) (ns.reverse ++ ns) (by omega) (fun x hx => by
          rcases List.mem_append.1 hx with h | h
          · exact hml x (List.mem_reverse.1 h)
          · exact hml x h) (row_reads (kept_new (kept_new A5 gw6) gw7))
        rw [hlen, allow_shuffled, HA.out] at hY
        have HY : Hid (Calls Try.prog 9 #[.slice (some ⟨w3.heap.size, 0, none⟩) (ns.length + ns.length) (2 * ns.length)] w7 fun e w' => e = .returned (.string ⟨A.toArray⟩) ∧ w7.grownBy w' none) := hY
        have G7 : w'.grownBy w7 none := grown_new gw1 (grown_new G13 (grown_new G35 (grown_new gw6 gw7)))
        rw [HA.out]
        clear hY A5 R6 R1 G35 G13 gw1 gw6 gw7 hlen HA gw4 a4 ho6 ho1
        go_wp2_with fail
        refine HY.out.mono ?_
        rintro e w8 ⟨rfl, gw8⟩
        clear HY
        have G8 : w'.grownBy w8 none := grown_new G7 gw8
        clear gw8 G7
        go_wp2_with fail
        go_ret
        exact ⟨rfl, G8⟩
      · have ej : ((j + 1 : Nat) : Int) - 1 = (j : Int) := by omega
        rw [ej]
        have hj : j < ns.length := by omega
        obtain ⟨x, rfl, hc0⟩ := R1 j ns[j] (List.getElem?_eq_getElem hj)
        have hc : wr.cell? (x.add j) = some (encStr ns[j]) := (grown_new G13 hg).cell hc0 (by simp)
        have HT : Hid ((ns.reverse.take (k + 1)).map encStr = (ns.reverse.take k).map encStr ++ [encStr ns[j]]) := take_rev ns k j hkm hj
        clear hc0 ej
        go_wp2_with (at_builtin; refine wpList_append_fits _ rfl (.tmp 33) (.tmp 38) 22 rfl w'.heap.size 9 i0 1 Try.underlying22 hi hz1 w3.heap.size k (2 * ns.length) ((ns.reverse.take k).map encStr) rfl (hown.alloc _) ⟨wr.heap.size, 0, none⟩ 1 1 [encStr ns[j]] rfl rfl (cells_new _ _ _) (by simp [Value.oneCell', encStr]) (by omega) ?_; intro w5 a5 gw5)
        go_roundw
        case rel => exact ⟨k + 1, j, by omega, by go_num, rfl, by rw [HT.out]; exact a5, grown_some (grown_new hg (World.grownBy_alloc wr _ none)) gw5 (Nat.le_refl _)⟩
        case measure => simp [intOf]
end Go.Proofs.Qxb6613348a
