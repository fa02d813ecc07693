/-
  THE MAIN WALK OF 'FnAllowedGetBringsHead'.
-/
import Derived.Test.Qxb6613348aZZ
import Derived.Test.Qxb6613348aModel
namespace Go.Proofs.Qxb6613348a
open Go.ChangeShapes Go.WideShapes Go.ChangeAt Go.RowKit Own

theorem reads_cells {w : World} {o : Option Addr} {ss : List (List UInt8)} (h : Reads w o ss) : ∀ ad, o = some ad → ∀ j u, (ss.map encStr)[j]? = some u → w.cell? (ad.add j) = some u := by
  intro ad e j u hj
  rw [List.getElem?_map] at hj
  obtain ⟨s, hs, rfl⟩ := Option.map_eq_some_iff.1 hj
  obtain ⟨x, hx, hc⟩ := h j s hs
  rw [e] at hx
  cases hx
  exact hc

theorem own_full {w : World} {base : Nat} {v : Value} {ss : List (List UInt8)} (h : w.ownsRow base 9 1 v ss.length (ss.map encStr)) : ∃ o c, v = .slice o ss.length c ∧ (o = none → ss.length = 0 ∧ c = 0) ∧ Reads w o ss := by
  rcases h.2 with ⟨rfl, hz⟩ | ⟨g, cap, cur, rfl, _⟩
  · have hss : ss = [] := List.eq_nil_of_length_eq_zero hz
    subst hss
    exact ⟨none, 0, rfl, fun _ => ⟨rfl, rfl⟩, fun j s hj => by simp at hj⟩
  · refine ⟨some ⟨g, 0, none⟩, cap, rfl, (by intro e; cases e), fun j s hj => ⟨_, rfl, ?_⟩⟩
    exact h.cells (g := g) rfl j _ (by rw [List.getElem?_map, hj]; rfl)

theorem oneCell_strs (ss : List (List UInt8)) : ∀ u ∈ ss.map encStr, u.oneCell' = true := by
  intro u hu
  obtain ⟨s, _, rfl⟩ := List.mem_map.1 hu
  rfl

theorem row_reads {w : World} {base g n cap : Nat} {l : List (List UInt8)} (h : w.ownsRow base 9 1 (.slice (some ⟨g, 0, none⟩) n cap) n (l.map encStr)) : Reads w (some ⟨g, 0, none⟩) l := fun j s hj => ⟨_, rfl, by rw [Addr.add_lit, Nat.zero_add]; exact own_get h j s hj⟩

theorem grown_some {w W W' : World} {g : Nat} (h : w.grownBy W none) (hg : W.grownBy W' (some g)) (hge : w.heap.size ≤ g) : w.grownBy W' none := grown_trans h hg (fun j e => by cases e; exact hge)
theorem grown_new {w W W' : World} (h : w.grownBy W none) (hg : W.grownBy W' none) : w.grownBy W' none := grown_trans h hg (fun j e => by cases e)

set_option maxHeartbeats 4000000 in
set_option maxRecDepth 100000 in
theorem two_yes (w : World) (o : Option Addr) (c : Nat) (ns : List (List UInt8)) (hn : ns.length ≤ 4096) (ht : ns.length + tot ns ≤ 1048576) (hs : ∀ s ∈ ns, s.length ≤ maxLen) (hr : Reads w o ns) :
    Calls Try.prog 4 #[.slice o ns.length c] w fun e w' => e = .returned (.bool true) ∧ w.grownBy w' none := by
  obtain ⟨i0, hi, hz0, hz1, hz2⟩ := info_parts info9
  have hml : ∀ x ∈ ns, x.length ≤ 1048576 := fun x hx => by have := tot_mem hx; omega
  have hb := zzBytes10 w o c ns (by unfold maxLen; omega) hs hr
  rw [decide_eq_true ht] at hb
  have HB : Hid (Calls Try.prog 10 #[.slice o ns.length c] w fun e w' => e = .returned (.bool true) ∧ w' = w) := hb
  have HA : Hid (Calls Try.prog 6 #[.int .i64 0, .slice o ns.length c] w fun e w' => (∃ t : Int, e = .returned (.int .i64 t)) ∧ w' = w) := addBytes w o c ns hn ht hr
  clear hb
  go_enter Try.func4, Try.ntmps4
  go_wp2_with fail
  refine HB.out.mono ?_
  rintro e w' ⟨rfl, rfl⟩
  go_wp2_with fail
  refine HA.out.mono ?_
  rintro e w' ⟨⟨t, rfl⟩, rfl⟩
  clear HA HB
  by_cases hbig : 1048576 < t
  · go_wp2_with fail
    go_ret
    exact ⟨rfl, grownBy_refl _ _⟩
  · go_wp2_with fail
    refine (clone _ o c ns (by omega) hr).mono ?_
    rintro e w1 ⟨v1, rfl, ov1, gw1⟩
    obtain ⟨o1, c1, rfl, ho1, R1⟩ := own_full ov1
    have hB : w'.heap.size ≤ w1.heap.size := gw1.size
    clear hr ov1
    go_wp2_with (first
      | (refine wpList_make_own _ rfl _ (.tmp 22) 22 rfl w'.heap.size 9 i0 (.string ⟨#[]⟩) 1 Try.underlying22 hi hz0 hz1 .i64 .i64 ((ns.length : Int) + 2) (ns.length + 2) rfl rfl (by omega) (by rw [hz2]; omega) (by unfold maxLen; omega) hB ?_; intro w2 a2 gw2)
      | (at_builtin; refine wpList_append_fits_any _ rfl (.tmp 24) (.tmp 25) 22 rfl w'.heap.size 9 i0 1 Try.underlying22 hi hz1 w1.heap.size 0 (ns.length + 2) [] rfl a2 o1 ns.length c1 (ns.map encStr) rfl (by simp) ho1 (reads_cells (R1.new gw2)) (oneCell_strs _) (by omega) ?_; intro w3 a3 gw3; simp only [Nat.zero_add, List.nil_append] at a3)
      | (at_builtin; refine wpList_append_fits _ rfl (.tmp 27) (.tmp 28) 22 rfl w'.heap.size 9 i0 1 Try.underlying22 hi hz1 w1.heap.size ns.length (ns.length + 2) (ns.map encStr) rfl (a3.alloc _) ⟨w3.heap.size, 0, none⟩ 2 2 [.string ⟨#[71, 69, 84]⟩, .string ⟨#[72, 69, 65, 68]⟩] rfl rfl (cells_new _ _ _) (by simp [Value.oneCell']) (by omega) ?_; intro w4 a4 gw4))
    have A4 : w4.ownsRow w'.heap.size 9 1 (.slice (some ⟨w1.heap.size, 0, none⟩) (ns.length + 2) (ns.length + 2)) (ns.length + 2) ((ns ++ [sGET, sHEAD]).map encStr) := by
      rw [List.map_append]; exact a4
    have G14 : w1.grownBy w4 none := grown_some (grown_new (grown_some gw2 gw3 (Nat.le_refl _)) (World.grownBy_alloc w3 _ none)) gw4 (Nat.le_refl _)
    have RM := row_reads A4
    have hlen4 : (ns ++ [sGET, sHEAD]).length = ns.length + 2 := by simp
    have ht4 : tot (ns ++ [sGET, sHEAD]) = tot ns + 7 := by rw [tot_append]; rfl
    have hM := model w4 (some ⟨w1.heap.size, 0, none⟩) (ns.length + 2) (ns ++ [sGET, sHEAD]) (by omega) (by omega) RM
    rw [hlen4] at hM
    refine hM.mono ?_
    rintro e w5 ⟨rfl, gw5⟩
    have G15 : w1.grownBy w5 none := grown_new G14 gw5
    have hB5 : w'.heap.size ≤ w5.heap.size := Nat.le_trans hB G15.size
    clear hM RM A4 a2 a3 a4 gw2 gw3 gw4 gw5 G14 hlen4 ht4
    go_wp2_with (first
      | (refine wpList_make_own _ rfl _ (.tmp 34) 22 rfl w'.heap.size 9 i0 (.string ⟨#[]⟩) 1 Try.underlying22 hi hz0 hz1 .i64 .i64 ((ns.length : Int) + 1) (ns.length + 1) rfl rfl (by omega) (by rw [hz2]; omega) (by unfold maxLen; omega) hB5 ?_; intro w6 a6 gw6)
      | (at_builtin; refine wpList_append_fits_any _ rfl (.tmp 36) (.tmp 37) 22 rfl w'.heap.size 9 i0 1 Try.underlying22 hi hz1 w5.heap.size 0 (ns.length + 1) [] rfl a6 o1 ns.length c1 (ns.map encStr) rfl (by simp) ho1 (reads_cells (R1.new (grown_new G15 gw6))) (oneCell_strs _) (by omega) ?_; intro w7 a7 gw7; simp only [Nat.zero_add, List.nil_append] at a7)
      | (at_builtin; refine wpList_append_fits _ rfl (.tmp 39) (.tmp 40) 22 rfl w'.heap.size 9 i0 1 Try.underlying22 hi hz1 w5.heap.size ns.length (ns.length + 1) (ns.map encStr) rfl (a7.alloc _) ⟨w7.heap.size, 0, none⟩ 1 1 [.string ⟨#[71, 69, 84]⟩] rfl rfl (cells_new _ _ _) (by simp [Value.oneCell']) (by omega) ?_; intro w8 a8 gw8; have G58 : w5.grownBy w8 none := grown_some (grown_new (grown_some gw6 gw7 (Nat.le_refl _)) (World.grownBy_alloc w7 _ none)) gw8 (Nat.le_refl _); have hB8 : w'.heap.size ≤ w8.heap.size := Nat.le_trans hB5 G58.size)
      | (refine wpList_make_own _ rfl _ (.tmp 44) 22 rfl w'.heap.size 9 i0 (.string ⟨#[]⟩) 1 Try.underlying22 hi hz0 hz1 .i64 .i64 ((ns.length : Int) + 2) (ns.length + 2) rfl rfl (by omega) (by rw [hz2]; omega) (by unfold maxLen; omega) hB8 ?_; intro w9 a9 gw9)
      | (at_builtin; refine wpList_append_fits _ rfl (.tmp 46) (.tmp 47) 22 rfl w'.heap.size 9 i0 1 Try.underlying22 hi hz1 w8.heap.size 0 (ns.length + 2) [] rfl (a9.alloc _) ⟨w9.heap.size, 0, none⟩ 1 1 [.string ⟨#[72, 69, 65, 68]⟩] rfl rfl (cells_new _ _ _) (by simp [Value.oneCell']) (by omega) ?_; intro w10 a10 gw10; have G810 : w8.grownBy w10 none := grown_some (grown_new gw9 (World.grownBy_alloc w9 _ none)) gw10 (Nat.le_refl _); simp only [Nat.zero_add, List.nil_append] at a10)
      | (at_builtin; refine wpList_append_fits_any _ rfl (.tmp 49) (.tmp 50) 22 rfl w'.heap.size 9 i0 1 Try.underlying22 hi hz1 w8.heap.size 1 (ns.length + 2) [.string ⟨#[72, 69, 65, 68]⟩] rfl a10 o1 ns.length c1 (ns.map encStr) rfl (by simp) ho1 (reads_cells (R1.new (grown_new G15 (grown_new G58 G810)))) (oneCell_strs _) (by omega) ?_; intro w11 a11 gw11)
      | (at_builtin; refine wpList_append_fits _ rfl (.tmp 52) (.tmp 53) 22 rfl w'.heap.size 9 i0 1 Try.underlying22 hi hz1 w8.heap.size (1 + ns.length) (ns.length + 2) ([.string ⟨#[72, 69, 65, 68]⟩] ++ ns.map encStr) rfl (a11.alloc _) ⟨w11.heap.size, 0, none⟩ 1 1 [.string ⟨#[71, 69, 84]⟩] rfl rfl (cells_new _ _ _) (by simp [Value.oneCell']) (by omega) ?_; intro w12 a12 gw12))
    have A8 : w8.ownsRow w'.heap.size 9 1 (.slice (some ⟨w5.heap.size, 0, none⟩) (ns.length + 1) (ns.length + 1)) (ns.length + 1) ((ns ++ [sGET]).map encStr) := by
      rw [List.map_append]; exact a8
    have A12 : w12.ownsRow w'.heap.size 9 1 (.slice (some ⟨w8.heap.size, 0, none⟩) (1 + ns.length + 1) (ns.length + 2)) (1 + ns.length + 1) (([sHEAD] ++ ns ++ [sGET]).map encStr) := by
      rw [List.map_append, List.map_append]; exact a12
    have G812 : w8.grownBy w12 none := grown_some (grown_new (grown_some G810 gw11 (Nat.le_refl _)) (World.grownBy_alloc w11 _ none)) gw12 (Nat.le_refl _)
    have G12 : w'.grownBy w12 none := grown_new gw1 (grown_new G15 (grown_new G58 G812))
    have RG := row_reads (kept_new A8 G812)
    have hl8 : (ns ++ [sGET]).length = ns.length + 1 := by simp
    have hl12 : ([sHEAD] ++ ns ++ [sGET]).length = 1 + ns.length + 1 := by simp; omega
    have hZ := zzAllowed w12 (some ⟨w5.heap.size, 0, none⟩) (ns.length + 1) (ns ++ [sGET]) (by omega) (fun x hx => by
      rcases List.mem_append.1 hx with h | h
      · exact hml x h
      · rw [List.mem_singleton.1 h]; decide) RG
    rw [hl8] at hZ
    have EW : Hid (allow (ns ++ [sGET, sHEAD]) = allow (ns ++ [sGET])) := (allow_head ns (ns ++ [sGET]) (ns ++ [sGET, sHEAD]) (by simp) (by simp)).symm
    have EB : Hid (allow ([sHEAD] ++ ns ++ [sGET]) = allow (ns ++ [sGET])) := by
      refine (allow_head ns (ns ++ [sGET]) ([sHEAD] ++ ns ++ [sGET]) (by simp) (fun x => ?_)).symm
      simp only [List.mem_append, List.mem_singleton]
      constructor
      · rintro ((h | h) | h)
        · exact .inr (.inr h)
        · exact .inl h
        · exact .inr (.inl h)
      · rintro (h | h | h)
        · exact .inl (.inr h)
        · exact .inr h
        · exact .inl (.inl h)
    refine hZ.mono ?_
    rintro e w13 ⟨rfl, gw13⟩
    have RB := row_reads (kept_new A12 gw13)
    have hY := zzAllowed w13 (some ⟨w8.heap.size, 0, none⟩) (ns.length + 2) ([sHEAD] ++ ns ++ [sGET]) (by omega) (fun x hx => by
      rcases List.mem_append.1 hx with h | h
      · rcases List.mem_append.1 h with h | h
        · rw [List.mem_singleton.1 h]; decide
        · exact hml x h
      · rw [List.mem_singleton.1 h]; decide) RB
    rw [hl12, EB.out] at hY
    have HY : Hid (Calls Try.prog 9 #[.slice (some ⟨w8.heap.size, 0, none⟩) (1 + ns.length + 1) (ns.length + 2)] w13 fun e w' => e = .returned (.string ⟨(allow (ns ++ [sGET])).toArray⟩) ∧ w13.grownBy w' none) := hY
    have G13 : w'.grownBy w13 none := grown_new G12 gw13
    rw [EW.out]
    clear hZ hY RG RB A8 A12 a6 a7 a8 a9 a10 a11 a12 gw6 gw7 gw8 gw9 gw10 gw11 gw12 G58 G810 G812 G12 gw13 G15 hl8 hl12
    go_wp2_with fail
    refine HY.out.mono ?_
    rintro e w14 ⟨rfl, gw14⟩
    clear HY
    have G14 : w'.grownBy w14 none := grown_new G13 gw14
    clear gw14 G13
    generalize allow (ns ++ [sGET]) = A
    go_wp2_with fail
    go_ret
    exact ⟨rfl, G14⟩
end Go.Proofs.Qxb6613348a
