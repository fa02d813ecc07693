/-
  THE MAIN WALK OF 'FnAppendNamesEntryChainsAndSeparates' where the sizes are within the law's own bound.
-/
import Derived.Test.Qxb6613949aLaw
namespace Go.Proofs.Qxb6613949a
open Go.ChangeShapes Go.WideShapes Go.ChangeAt Go.RowKit Own
set_option linter.unusedVariables false

/-- What is known of the slice that came in. -/
def Came (w : World) (v : Value) (l : List UInt8) : Prop :=
  (v = .slice none 0 0 ∧ l = []) ∨ ∃ x c, v = .slice (some x) l.length c ∧ ∀ j u, (bc l)[j]? = some u → w.cell? (x.add j) = some u

theorem clone_came (w : World) (v : Value) (l : List UInt8) (hn : l.length ≤ 1048576) (h : Came w v l) :
    Calls Try.prog 8 #[v] w fun e w' => ∃ v', e = .returned v' ∧ w'.ownsRow w.heap.size 5 1 v' l.length (bc l) ∧ w.grownBy w' none := by
  rcases h with ⟨rfl, rfl⟩ | ⟨x, c, rfl, hc⟩
  · refine (clone_nil w).mono ?_
    rintro e w' ⟨rfl, rfl⟩
    exact ⟨_, rfl, World.ownsRow_nil _ _ _ _, grownBy_refl _ _⟩
  · exact clone_some w x l.length c l rfl hn hc

/-- The rows of the main walk: u (the front) stays, v grows; nothing that was there before has turned. -/
structure Inv (w W : World) (u v : Value) (lu lv : List UInt8) : Prop where
  hu : W.ownsRow w.heap.size 5 1 u lu.length (bc lu)
  hv : W.ownsRow w.heap.size 5 1 v lv.length (bc lv)
  ne : u.ownBlock = none ∨ u.ownBlock ≠ v.ownBlock
  gr : w.grownBy W none

theorem grown_trans {a b c : World} (h : a.grownBy b none) (k : b.grownBy c none) : a.grownBy c none :=
  ⟨k.os.trans h.os, k.tape.trans h.tape, k.output.trans h.output, Nat.le_trans h.size k.size, fun j hj hne => (k.block j (Nat.lt_of_lt_of_le hj h.size) (by simp)).trans (h.block j hj hne)⟩

theorem kept_new {W W' : World} {base n : Nat} {u : Value} {xs : List Value} (h : W.ownsRow base 5 1 u n xs) (hg : W.grownBy W' none) : W'.ownsRow base 5 1 u n xs :=
  h.kept hg (by cases u.ownBlock with
    | none => exact .inl rfl
    | some k => exact .inr (by simp))

theorem Inv.start {w w1 w2 : World} {v1 v2 : Value} {l : List UInt8} (o1 : w1.ownsRow w.heap.size 5 1 v1 l.length (bc l)) (g1 : w.grownBy w1 none)
    (o2 : w2.ownsRow w1.heap.size 5 1 v2 l.length (bc l)) (g2 : w1.grownBy w2 none) : Inv w w2 v2 v1 l l := by
  refine ⟨ownsRow_mono o2 g1.size, kept_new o1 g2, ?_, grown_trans g1 g2⟩
  cases h2 : v2.ownBlock with
  | none => exact .inl rfl
  | some k =>
    refine .inr fun e => ?_
    have a := (o2.lt k h2).1
    have b := (o1.lt k e.symm).2
    omega

theorem Inv.alloc {w W : World} {u v : Value} {lu lv : List UInt8} (h : Inv w W u v lu lv) (o : Obj) : Inv w (W.alloc o) u v lu lv :=
  ⟨h.hu.alloc o, h.hv.alloc o, h.ne, grown_trans h.gr (World.grownBy_alloc W o none)⟩

theorem Inv.step {w W W' : World} {u v v' : Value} {lu lv lv' : List UInt8} (h : Inv w W u v lu lv) (ho : W'.ownsRow w.heap.size 5 1 v' lv'.length (bc lv')) (hs : Step W W' v v') :
    Inv w W' u v' lu lv' := by
  refine ⟨hs.kept h.hu h.ne, ho, ?_, ?_⟩
  · rcases hs.block with hb | hb
    · rw [hb]; exact h.ne
    · cases hu : u.ownBlock with
      | none => exact .inl rfl
      | some k =>
        refine .inr fun e => ?_
        have a := hb k e.symm
        have b := (h.hu.lt k hu).2
        omega
  · refine ⟨hs.grown.os.trans h.gr.os, hs.grown.tape.trans h.gr.tape, hs.grown.output.trans h.gr.output, Nat.le_trans h.gr.size hs.grown.size, fun k hk hne => ?_⟩
    rw [hs.grown.block k (Nat.lt_of_lt_of_le hk h.gr.size) ?_, h.gr.block k hk hne]
    intro e
    have := (h.hv.lt k e.symm).1
    omega

theorem below_of {w W : World} (h : w.grownBy W none) (m : Nat) : Below w.heap.size w (W.drewN m) := by
  have h0 : Below w.heap.size w W := ⟨h.os, h.tape, h.output, h.size, fun k hk => h.block k hk (by simp)⟩
  induction m with
  | zero => exact h0
  | succ m ih => exact ih.drew

/-- Behind the four appends: the chain (v4), the front (v2), the two entries alone (v5, v6). -/
structure Four (w W : World) (v2 v4 v5 v6 : Value) (l : List UInt8) (f s : ByteArray) : Prop where
  h2 : W.ownsRow w.heap.size 5 1 v2 l.length (bc l)
  h4 : W.ownsRow w.heap.size 5 1 v4 (l ++ entry f ++ entry s).length (bc (l ++ entry f ++ entry s))
  h5 : W.ownsRow w.heap.size 5 1 v5 (entry f).length (bc (entry f))
  h6 : W.ownsRow w.heap.size 5 1 v6 (entry s).length (bc (entry s))
  gr : w.grownBy W none

theorem Four.of {w W W1 W2 : World} {v2 v4 v5 v6 : Value} {l : List UInt8} {f s : ByteArray} (o1 o2 : Obj) (I : Inv w W v2 v4 l (l ++ entry f ++ entry s))
    (h5 : W1.ownsRow w.heap.size 5 1 v5 ([] ++ entry f).length (bc ([] ++ entry f))) (s5 : Step (W.alloc o1) W1 (.slice none 0 0) v5)
    (h6 : W2.ownsRow w.heap.size 5 1 v6 ([] ++ entry s).length (bc ([] ++ entry s))) (s6 : Step (W1.alloc o2) W2 (.slice none 0 0) v6) : Four w W2 v2 v4 v5 v6 l f s := by
  have g5 : (W.alloc o1).grownBy W1 none := s5.grown
  have g6 : (W1.alloc o2).grownBy W2 none := s6.grown
  refine ⟨kept_new ((kept_new (I.alloc o1).hu g5).alloc o2) g6, kept_new ((kept_new (I.alloc o1).hv g5).alloc o2) g6, kept_new (h5.alloc o2) g6, h6, ?_⟩
  exact grown_trans (grown_trans (I.alloc o1).gr g5) (grown_trans (World.grownBy_alloc W1 o2 none) g6)

theorem Four.drewN {w W : World} {v2 v4 v5 v6 : Value} {l : List UInt8} {f s : ByteArray} (h : Four w W v2 v4 v5 v6 l f s) (m : Nat) : Four w (W.drewN m) v2 v4 v5 v6 l f s :=
  ⟨own_drewN h.h2 m, own_drewN h.h4 m, own_drewN h.h5 m, own_drewN h.h6 m, by
    have hb := below_of h.gr m
    exact ⟨hb.os, hb.tape, hb.output, hb.size, fun k hk _ => hb.block k hk⟩⟩

theorem cell_box (W : World) (s : ByteArray) : (W.alloc (.cells #[.string s, .slice none 0 0, .slice none 0 0] 32)).cell? ⟨W.heap.size, 0, none⟩ = some (.string s) := by
  simp [go_sem]

section
variable {w W : World} {v2 v4 v5 v6 : Value} {l : List UInt8} {f s : ByteArray}

theorem four_len (hf : f.size ≤ 1048576) (hs : s.size ≤ 1048576) (hl : l.length ≤ 1048576) : (l ++ entry f ++ entry s).length ≤ 8388608 ∧ 0 < (l ++ entry f ++ entry s).length := by
  have := entry_length f hf
  have := entry_length s hs
  rw [List.length_append, List.length_append]
  omega

theorem four_c1 (F : Four w W v2 v4 v5 v6 l f s) (hf : f.size ≤ 1048576) (hs : s.size ≤ 1048576) (hl : l.length ≤ 1048576) :
    Calls Try.prog 10 #[v4, .int .i64 0, v2] W fun e w' => e = .returned (.bool true) ∧ ∃ m, w' = W.drewN m := by
  have hn := four_len (l := l) hf hs hl
  refine (eqAt_own W _ 0 v4 v2 _ l (by rw [List.length_append, List.length_append]; omega) hn.1 hn.2 F.h4 F.h2).mono ?_
  rintro e w' ⟨rfl, hw⟩
  exact ⟨by rw [List.append_assoc, eqAt_head], hw⟩

theorem four_c2 (F : Four w W v2 v4 v5 v6 l f s) (hf : f.size ≤ 1048576) (hs : s.size ≤ 1048576) (hl : l.length ≤ 1048576) :
    Calls Try.prog 10 #[v4, .int .i64 (l.length : Int), v5] W fun e w' => e = .returned (.bool true) ∧ ∃ m, w' = W.drewN m := by
  have hn := four_len (l := l) hf hs hl
  refine (eqAt_own W _ l.length v4 v5 _ (entry f) (by rw [List.length_append, List.length_append]; omega) hn.1 hn.2 F.h4 F.h5).mono ?_
  rintro e w' ⟨rfl, hw⟩
  exact ⟨by rw [eqAt_mid], hw⟩

theorem four_c3 (F : Four w W v2 v4 v5 v6 l f s) (hf : f.size ≤ 1048576) (hs : s.size ≤ 1048576) (hl : l.length ≤ 1048576) (k1 : Nat) (hk : k1 = (entry f).length) :
    Calls Try.prog 10 #[v4, .int .i64 ((l.length : Int) + (k1 : Int)), v6] W fun e w' => e = .returned (.bool true) ∧ ∃ m, w' = W.drewN m := by
  have hn := four_len (l := l) hf hs hl
  rw [show (l.length : Int) + (k1 : Int) = ((l ++ entry f).length : Int) by rw [List.length_append, hk]; omega]
  refine (eqAt_own W _ (l ++ entry f).length v4 v6 _ (entry s) (by rw [List.length_append (bs := entry s)]; omega) hn.1 hn.2 F.h4 F.h6).mono ?_
  rintro e w' ⟨rfl, hw⟩
  exact ⟨by rw [eqAt_tail], hw⟩

theorem four_r1 (F : Four w W v2 v4 v5 v6 l f s) (hf : f.size ≤ 1048576) (hs : s.size ≤ 1048576) (hl : l.length ≤ 1048576) (k1 : Nat) (hk : k1 = (entry f).length) :
    Calls Try.prog 11 #[v4, .int .i64 (l.length : Int)] W fun e w' => e = .returned (.tuple #[.string f, .int .i64 ((l.length : Int) + (k1 : Int)), .bool true]) ∧ ∃ m, w' = W.drewN m := by
  have hn := four_len (l := l) hf hs hl
  have ho := F.h4
  obtain ⟨g, c, rfl⟩ := own_shape_pos ho hn.2
  refine (readEntry W _ g c l.length f _ (entry s) hf hn.1 (by rw [List.append_assoc, List.drop_left]) ho).mono ?_
  rintro e w' ⟨rfl, hw⟩
  exact ⟨by rw [hk]; simp, hw⟩

theorem four_r2 (F : Four w W v2 v4 v5 v6 l f s) (hf : f.size ≤ 1048576) (hs : s.size ≤ 1048576) (hl : l.length ≤ 1048576) (k1 k2 : Nat) (hk : k1 = (entry f).length) (hk2 : k2 = (entry s).length) :
    Calls Try.prog 11 #[v4, .int .i64 ((l.length : Int) + (k1 : Int))] W fun e w' => e = .returned (.tuple #[.string s, .int .i64 ((l.length : Int) + (k1 : Int) + (k2 : Int)), .bool true]) ∧ ∃ m, w' = W.drewN m := by
  have hn := four_len (l := l) hf hs hl
  have ho := F.h4
  obtain ⟨g, c, rfl⟩ := own_shape_pos ho hn.2
  rw [show (l.length : Int) + (k1 : Int) = ((l ++ entry f).length : Int) by rw [List.length_append, hk]; omega]
  refine (readEntry W _ g c (l ++ entry f).length s _ [] hs hn.1 (by rw [List.drop_left, List.append_nil]) ho).mono ?_
  rintro e w' ⟨rfl, hw⟩
  exact ⟨by rw [hk2]; simp, hw⟩

theorem four_e (F : Four w W v2 v4 v5 v6 l f s) (hf : f.size ≤ 1048576) (hs : s.size ≤ 1048576) (hk : (entry f).length = (entry s).length) :
    Calls Try.prog 10 #[v5, .int .i64 0, v6] W fun e w' => e = .returned (.bool (eqAt (entry f) 0 (entry s))) ∧ ∃ m, w' = W.drewN m := by
  have := entry_length f hf
  exact eqAt_own W _ 0 v5 v6 (entry f) (entry s) (by omega) (by omega) (by omega) F.h5 F.h6
end

theorem str_ne (f s : ByteArray) (h : f ≠ s) : (f.toList == s.toList) = false := by
  rw [beq_eq_false_iff_ne]
  intro e
  apply h
  have e' : f.data.toList = s.data.toList := by rw [← ByteArray.toList_eq, ← ByteArray.toList_eq]; exact e
  exact ByteArray.ext (Array.toList_inj.1 e')

set_option maxHeartbeats 2000000 in
set_option maxRecDepth 100000 in
theorem law_yes (w : World) (o : Option Addr) (c : Nat) (l : List UInt8) (f s : ByteArray) (hsz : l.length + f.size + s.size ≤ 1048576) (h0 : Came w (.slice o l.length c) l) :
    Calls Try.prog 4 #[.slice o l.length c, .string f, .string s] w fun e w' => e = .returned (.bool true) ∧ Below w.heap.size w w' := by
  have hl : l.length ≤ 1048576 := by omega
  go_enter Try.func4, Try.ntmps4
  go_wp2_with fail
  refine (bytes7_yes o l.length c f s hsz _).mono ?_
  rintro e w' ⟨rfl, rfl⟩
  go_wp2_with fail
  refine (clone_came w' _ l hl h0).mono ?_
  rintro e w1 ⟨v1, rfl, o1, g1⟩
  go_wp2_with fail
  refine (clone_own w1 _ v1 l hl o1).mono ?_
  rintro e w2 ⟨v2, rfl, o2, g2⟩
  have I2 := Inv.start o1 g1 o2 g2
  clear o1 g1 o2 g2 h0
  go_wp2_with fail
  refine (namesEntry _ _ w2.heap.size v1 l f (by omega) (by omega) (by have := I2.gr.size; simp; omega) (I2.alloc _).hv (cell_box w2 f)).mono ?_
  rintro e w3 ⟨v3, rfl, o3, s3⟩
  have I3 := (I2.alloc _).step o3 s3
  have L3 := entry_length f (by omega)
  have hl3 : (l ++ entry f).length = l.length + (entry f).length := List.length_append
  clear I2 o3 s3
  go_wp2_with fail
  refine (namesEntry _ _ w3.heap.size v3 (l ++ entry f) s (by omega) (by omega) (by have := I3.gr.size; simp; omega) (I3.alloc _).hv (cell_box w3 s)).mono ?_
  rintro e w4 ⟨v4, rfl, o4, s4⟩
  have I4 := (I3.alloc _).step o4 s4
  have L4 := entry_length s (by omega)
  clear I3 o4 s4 hl3
  have B4 : w'.heap.size ≤ w4.heap.size := I4.gr.size
  go_wp2_with fail
  refine (namesEntry _ w'.heap.size w4.heap.size (.slice none 0 0) [] f (by omega) (by simp) (by simp; omega) (World.ownsRow_nil _ _ _ _) (cell_box w4 f)).mono ?_
  rintro e w5 ⟨v5, rfl, o5, s5⟩
  have B5 : w'.heap.size ≤ w5.heap.size := by have := s5.grown.size; simp at this; omega
  go_wp2_with fail
  refine (namesEntry _ w'.heap.size w5.heap.size (.slice none 0 0) [] s (by omega) (by simp) (by simp; omega) (World.ownsRow_nil _ _ _ _) (cell_box w5 s)).mono ?_
  rintro e w6 ⟨v6, rfl, o6, s6⟩
  have F := Four.of _ _ I4 o5 s5 o6 s6
  clear I4 o5 s5 o6 s6 B4 B5
  obtain ⟨k1, hk1⟩ : ∃ k, k = (entry f).length := ⟨_, rfl⟩
  obtain ⟨k2, hk2⟩ : ∃ k, k = (entry s).length := ⟨_, rfl⟩
  have hlen : (l ++ entry f ++ entry s).length = l.length + k1 + k2 := by rw [List.length_append, List.length_append, hk1, hk2]
  obtain ⟨q2, c2, e2⟩ := own_shape F.h2
  obtain ⟨q4, c4, e4⟩ := own_shape_pos F.h4 (by omega)
  obtain ⟨q5, c5, e5⟩ := own_shape_pos F.h5 (by omega)
  obtain ⟨q6, c6, e6⟩ := own_shape_pos F.h6 (by omega)
  rw [hlen] at e4
  rw [← hk1] at e5
  rw [← hk2] at e6
  rw [← hk1] at L3
  rw [← hk2] at L4
  subst e2 e4 e5 e6
  have K1 : Hid (k1 = (entry f).length) := hk1
  have K2 : Hid (k2 = (entry s).length) := hk2
  have KL : Hid ((l ++ entry f ++ entry s).length = l.length + k1 + k2) := hlen
  clear hk1 hk2 hlen
  have hf : f.size ≤ 1048576 := by omega
  have hs : s.size ≤ 1048576 := by omega
  go_wp2_with fail
  refine (four_c1 F hf hs hl).mono ?_
  rintro e x ⟨rfl, m1, rfl⟩
  go_wp2_with fail
  refine (four_c2 (F.drewN _) hf hs hl).mono ?_
  rintro e x ⟨rfl, m2, rfl⟩
  go_wp2_with fail
  refine (four_c3 (F.drewN _) hf hs hl k1 K1.out).mono ?_
  rintro e x ⟨rfl, m3, rfl⟩
  go_wp2_with fail
  refine (four_r1 (F.drewN _) hf hs hl k1 K1.out).mono ?_
  rintro e x ⟨rfl, m4, rfl⟩
  go_wp2_with fail
  refine (four_r2 (F.drewN _) hf hs hl k1 k2 K1.out K2.out).mono ?_
  rintro e x ⟨rfl, m5, rfl⟩
  by_cases hk : k1 = k2
  · have hkk : (entry f).length = (entry s).length := by rw [← K1.out, ← K2.out, hk]
    have HE : Hid (∀ m, Calls Try.prog 10 #[.slice (some ⟨q5, 0, none⟩) k1 c5, .int .i64 0, .slice (some ⟨q6, 0, none⟩) k2 c6] (w6.drewN m) fun e w' => e = .returned (.bool (eqAt (entry f) 0 (entry s))) ∧ ∃ m', w' = (w6.drewN m).drewN m') :=
      fun m => four_e (F.drewN m) hf hs hkk
    have hkb : ((k1 : Int) == (k2 : Int)) = true := by rw [hk]; simp
    clear hk
    go_wp2_with fail
    refine (HE.out _).mono ?_
    rintro e x ⟨rfl, m6, rfl⟩
    by_cases hfs : f = s
    · subst hfs
      rw [eqAt_refl]
      go_wp2_with fail
      go_ret
      exact ⟨rfl, below_of F.gr _⟩
    · have hne : (f.toList == s.toList) = false := str_ne f s hfs
      rw [eqAt_ne _ _ hkk (fun e => hfs (entry_inj f s hf hs e))]
      clear hfs
      go_wp2_with fail
      go_ret
      exact ⟨rfl, below_of F.gr _⟩
  · have hkb : ((k1 : Int) == (k2 : Int)) = false := by rw [beq_eq_false_iff_ne]; omega
    have hne : (f.toList == s.toList) = false := str_ne f s (fun e => hk (by rw [K1.out, K2.out, e]))
    clear hk
    go_wp2_with fail
    go_ret
    exact ⟨rfl, below_of F.gr _⟩
end Go.Proofs.Qxb6613949a
