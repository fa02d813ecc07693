/-
  APPENDING TO A ROW THAT THE CALL OWNS, WITH ONE WORD MORE THAN THE LIBRARY'S LAWS LEAVE: where the result's row lies (the old row, or a new one). No Go text.
-/
import Derived.WalkKit
import Derived.ArgAppend
import Derived.Lib.AppendStr
import Derived.Sort.EncStr
import Derived.Deep.Draws
namespace Go.Proofs.Qxb6613348a.Own

theorem ownsRow_mono {w : World} {base base' : Nat} {e : TypeId} {size : Nat} {v : Value} {n : Nat} {xs : List Value} (h : w.ownsRow base e size v n xs) (hb : base' ≤ base) :
    w.ownsRow base' e size v n xs := by
  refine ⟨h.1, ?_⟩
  rcases h.2 with hn | ⟨g, cap, cur, h1, h2, h3⟩
  · exact .inl hn
  · exact .inr ⟨g, cap, cur, h1, Nat.le_trans hb h2, h3⟩

theorem grownBy_row {w w' : World} (h : w.grownBy w' none) (row : Option Nat) : w.grownBy w' row :=
  ⟨h.os, h.tape, h.output, h.size, fun k hk _ => h.block k hk (by simp)⟩

theorem grownBy_refl (w : World) (row : Option Nat) : w.grownBy w row := ⟨rfl, rfl, rfl, Nat.le_refl _, fun _ _ _ => rfl⟩

/-- What one or more appends do: only v's row and new blocks have turned; v' lies in v's row or in a new one. -/
structure Step (w w' : World) (v v' : Value) : Prop where
  grown : w.grownBy w' v.ownBlock
  block : v'.ownBlock = v.ownBlock ∨ ∀ k, v'.ownBlock = some k → w.heap.size ≤ k

theorem Step.trans {w w1 w2 : World} {v v1 v2 : Value} (h : Step w w1 v v1) (k : Step w1 w2 v1 v2) : Step w w2 v v2 := by
  refine ⟨⟨k.grown.os.trans h.grown.os, k.grown.tape.trans h.grown.tape, k.grown.output.trans h.grown.output, Nat.le_trans h.grown.size k.grown.size, ?_⟩, ?_⟩
  · intro j hj hne
    rw [k.grown.block j (Nat.lt_of_lt_of_le hj h.grown.size) ?_, h.grown.block j hj hne]
    intro e
    rcases h.block with hb | hb
    · exact hne (e.trans hb)
    · have := hb j e.symm
      omega
  · rcases k.block with hk | hk
    · rw [hk]; exact h.block
    · exact .inr fun j hj => Nat.le_trans h.grown.size (hk j hj)

theorem Step.alloc (w : World) (o : Obj) (v : Value) : Step w (w.alloc o) v v := ⟨World.grownBy_alloc w o _, .inl rfl⟩

/-- A row that is not v's stays as it was. -/
theorem Step.kept {w w' : World} {v v' u : Value} {base : Nat} {e : TypeId} {size n : Nat} {xs : List Value} (h : Step w w' v v') (hu : w.ownsRow base e size u n xs)
    (hne : u.ownBlock = none ∨ u.ownBlock ≠ v.ownBlock) : w'.ownsRow base e size u n xs := hu.kept h.grown hne

section
variable {P : Program} (w : World)

theorem run_append_strong (base : Nat) (t ty e : TypeId) (i : TypeInfo) (z : Value) (size bytes : Nat) (ht : P.underlying t = some (.slice e)) (hi : P.info? e = some i) (hz : i.zero = some z)
    (hsize : i.size = size) (hby : i.bytes = bytes) (hzs : z.cells.size = size) (hsz : 0 < size)
    (v : Value) (n : Nat) (xs : List Value) (hown : w.ownsRow base e size v n xs)
    (a : Addr) (m c : Nat) (news : List Value) (hl : news.length = m * size) (hnews : ∀ j u, news[j]? = some u → w.cell? (a.add j) = some u) (h1 : ∀ u ∈ news, u.oneCell' = true)
    (h63 : n + m ≤ maxLen) (hbytes : (n + m) * bytes ≤ 140737488355328) (hbase : base ≤ w.heap.size) :
    ∃ v' w', (Builtin.append_ #[t, t] ty #[v, .slice (some a) m c]).run P w = .ok v' w' ∧ w'.ownsRow base e size v' (n + m) (xs ++ news) ∧ Step w w' v v' := by
  rcases hown.2 with ⟨rfl, rfl⟩ | ⟨g, cap, cur, rfl, hbg, hg, hnc, hcm, hcs, htake⟩
  · have hx : xs = [] := List.eq_nil_of_length_eq_zero (by simpa using hown.1)
    subst hx
    obtain ⟨v', w', hr, ho, hgr, _⟩ := run_append_own (P := P) w w.heap.size t ty e i z size bytes ht hi hz hsize hby hzs hsz (.slice none 0 0) 0 [] (World.ownsRow_nil w _ e size) a m c news hl hnews h1 h63 hbytes (Nat.le_refl _)
    exact ⟨v', w', hr, ownsRow_mono ho hbase, hgr, .inr fun k hk => (ho.lt k hk).1⟩
  · by_cases hroom : n + m ≤ cap
    · obtain ⟨w', hr, ho, hgr⟩ := run_append_fits (P := P) w base t ty e i size ht hi hsize g n cap xs hown a m c news hl hnews h1 hroom
      exact ⟨_, w', hr, ho, hgr, .inl rfl⟩
    · obtain ⟨v', w', hr, ho, hgr⟩ := run_append_arg_grows (P := P) w t ty e i z size bytes ht hi hz hsize hby hzs hsz ⟨g, 0, none⟩ n cap xs hown.1 (hown.cells (g := g) rfl) a m c news hl hnews (by omega) h63 hbytes
      exact ⟨v', w', hr, ownsRow_mono ho hbase, grownBy_row hgr _, .inr fun k hk => (ho.lt k hk).1⟩

theorem run_append_string_strong (base : Nat) (t u ty e : TypeId) (i : TypeInfo) (ht : P.underlying t = some (.slice e)) (hu : P.underlying u = some .string) (hi : P.info? e = some i) (hz : i.zero = some (.int .u8 0))
    (hsize : i.size = 1) (hby : i.bytes = 1)
    (v : Value) (n : Nat) (xs : List Value) (hown : w.ownsRow base e 1 v n xs) (s : ByteArray)
    (h63 : n + s.size ≤ maxLen) (hbytes : n + s.size ≤ 140737488355328) (hbase : base ≤ w.heap.size) :
    ∃ v' w', (Builtin.append_ #[t, u] ty #[v, .string s]).run P w = .ok v' w' ∧ w'.ownsRow base e 1 v' (n + s.size) (xs ++ Lib.strCells s) ∧ Step w w' v v' := by
  rcases hown.2 with ⟨rfl, rfl⟩ | ⟨g, cap, cur, rfl, hbg, hg, hnc, hcm, hcs, htake⟩
  · have hx : xs = [] := List.eq_nil_of_length_eq_zero (by simpa using hown.1)
    subst hx
    obtain ⟨v', w', hr, ho, hgr, _⟩ := Lib.run_append_own_string (P := P) w w.heap.size t u ty e i ht hu hi hz hsize hby (.slice none 0 0) 0 [] (World.ownsRow_nil w _ e 1) s h63 hbytes (Nat.le_refl _)
    exact ⟨v', w', hr, ownsRow_mono ho hbase, hgr, .inr fun k hk => (ho.lt k hk).1⟩
  · obtain ⟨v', w', hr, ho, hgr, _⟩ := Lib.run_append_own_string (P := P) w base t u ty e i ht hu hi hz hsize hby _ n xs hown s h63 hbytes hbase
    refine ⟨v', w', hr, ho, hgr, ?_⟩
    by_cases hroom : n + s.size ≤ cap
    · have hr2 := Lib.run_append_room_string (P := P) w t u ty e i ht hu hi hsize g n cap cur hg s hroom (by omega)
      rw [hr] at hr2
      injection hr2 with e1 e2
      rw [e1]
      exact .inl rfl
    · have hs2 : 9223372036854775807 = maxLen := rfl
      have hr2 := Lib.run_append_grow_string (P := P) w t u ty e i (.int .u8 0) ht hu hi hz ⟨g, 0, none⟩ n cap xs (by rw [hsize]; exact hown.1) (hown.cells (g := g) rfl) s (by omega) (by omega)
        (by rw [hby]; exact growslice_fits (by omega) (by omega))
      rw [hr] at hr2
      injection hr2 with e1 e2
      rw [e1]
      refine .inr fun k hk => ?_
      simp [Value.ownBlock] at hk
      omega

/-- The slice append at the operation, for the walk. -/
theorem wpList_append_strong {ops : Array Oper} {rest : List Oper} {o : Oper} {a : Act} {Q : Exit → Act → World → Prop} (hgd : o.guard = none) (s x : Operand) (t : TypeId)
    (ho : o.op = .call { callee := .builtin .append, args := #[s, x], argTypes := #[t, t] })
    (base : Nat) (e : TypeId) (i : TypeInfo) (z : Value) (size bytes : Nat) (ht : P.underlying t = some (.slice e)) (hi : P.info? e = some i) (hz : i.zero = some z)
    (hsize : i.size = size) (hby : i.bytes = bytes) (hzs : z.cells.size = size) (hsz : 0 < size)
    (v : Value) (n : Nat) (xs : List Value) (hs : a.eval s = v) (hown : w.ownsRow base e size v n xs)
    (ad : Addr) (m c : Nat) (news : List Value) (hx : a.eval x = .slice (some ad) m c) (hl : news.length = m * size) (hnews : ∀ j u, news[j]? = some u → w.cell? (ad.add j) = some u) (h1 : ∀ u ∈ news, u.oneCell' = true)
    (h63 : n + m ≤ maxLen) (hbytes : (n + m) * bytes ≤ 140737488355328) (hbase : base ≤ w.heap.size)
    (h : ∀ v' w', w'.ownsRow base e size v' (n + m) (xs ++ news) → Step w w' v v' → wpList P ops Q rest (a.put o.dst v') w') : wpList P ops Q (o :: rest) a w := by
  refine wpList_plain hgd fun K hK => ?_
  obtain ⟨v', w', hr, h2, h3⟩ := run_append_strong (P := P) w base t o.type e i z size bytes ht hi hz hsize hby hzs hsz v n xs hown ad m c news hl hnews h1 h63 hbytes hbase
  unfold Oper.wp execOp
  simp only [ho, resolve, invoke, builtin, Sem.run_bind, Sem.run_pure, Result.andThen_ok, List.map_toArray, List.map_cons, List.map_nil, hs, hx, hr]
  exact hK _ _ (h v' w' h2 h3)

/-- The string append at the operation, for the walk. -/
theorem wpList_append_string_strong {ops : Array Oper} {rest : List Oper} {o : Oper} {a : Act} {Q : Exit → Act → World → Prop} (hgd : o.guard = none) (sl x : Operand) (t u : TypeId)
    (ho : o.op = .call { callee := .builtin .append, args := #[sl, x], argTypes := #[t, u] })
    (base : Nat) (e : TypeId) (i : TypeInfo) (ht : P.underlying t = some (.slice e)) (hu : P.underlying u = some .string) (hi : P.info? e = some i) (hz : i.zero = some (.int .u8 0))
    (hsize : i.size = 1) (hby : i.bytes = 1)
    (v : Value) (n : Nat) (xs : List Value) (hs : a.eval sl = v) (hown : w.ownsRow base e 1 v n xs) (s : ByteArray) (hx : a.eval x = .string s)
    (h63 : n + s.size ≤ maxLen) (hbytes : n + s.size ≤ 140737488355328) (hbase : base ≤ w.heap.size)
    (h : ∀ v' w', w'.ownsRow base e 1 v' (n + s.size) (xs ++ Lib.strCells s) → Step w w' v v' → wpList P ops Q rest (a.put o.dst v') w') : wpList P ops Q (o :: rest) a w := by
  refine wpList_plain hgd fun K hK => ?_
  obtain ⟨v', w', hr, h2, h3⟩ := run_append_string_strong (P := P) w base t u o.type e i ht hu hi hz hsize hby v n xs hown s h63 hbytes hbase
  unfold Oper.wp execOp
  simp only [ho, resolve, invoke, builtin, Sem.run_bind, Sem.run_pure, Result.andThen_ok, List.map_toArray, List.map_cons, List.map_nil, hs, hx, hr]
  exact hK _ _ (h v' w' h2 h3)
end
/-! ### Slices of strings, read -/

/-- The slice at o reads as ss. -/
def Reads (w : World) (o : Option Addr) (ss : List (List UInt8)) : Prop := ∀ j s, ss[j]? = some s → ∃ x, o = some x ∧ w.cell? (x.add j) = some (encStr s)

theorem block_add (x : Addr) (j : Nat) : (x.add j).block = x.block := by
  unfold Addr.add
  split <;> rfl

theorem Reads.grown {w w' : World} {o : Option Addr} {ss : List (List UInt8)} {row : Option Nat} (h : Reads w o ss) (hg : w.grownBy w' row) (hne : ∀ x, o = some x → some x.block ≠ row) : Reads w' o ss := by
  intro j s hj
  obtain ⟨x, hx, hc⟩ := h j s hj
  exact ⟨x, hx, hg.cell hc (by rw [block_add]; exact hne x hx)⟩

theorem Reads.new {w w' : World} {o : Option Addr} {ss : List (List UInt8)} (h : Reads w o ss) (hg : w.grownBy w' none) : Reads w' o ss := h.grown hg (fun _ _ => by simp)

theorem Reads.below {w w' : World} {o : Option Addr} {ss : List (List UInt8)} (h : Reads w o ss) (hb : Go.RowKit.Below w.heap.size w w') : Reads w' o ss :=
  h.new ⟨hb.os, hb.tape, hb.output, hb.size, fun k hk _ => hb.block k hk⟩

/-- A row of strings that is owned reads as what it owns. -/
theorem reads_own {w : World} {base : Nat} {v : Value} {ss : List (List UInt8)} (h : w.ownsRow base 9 1 v ss.length (ss.map encStr)) : ∃ o c, v = .slice o ss.length c ∧ Reads w o ss := by
  rcases h.2 with ⟨rfl, hz⟩ | ⟨g, cap, cur, rfl, _⟩
  · have hss : ss = [] := List.eq_nil_of_length_eq_zero hz
    subst hss
    exact ⟨none, 0, rfl, fun j s hj => by simp at hj⟩
  · refine ⟨some ⟨g, 0, none⟩, cap, rfl, fun j s hj => ⟨_, rfl, ?_⟩⟩
    exact h.cells (g := g) rfl j _ (by rw [List.getElem?_map, hj]; rfl)

theorem grown_trans {a b c : World} {row : Option Nat} (h : a.grownBy b none) (k : b.grownBy c row) (hr : ∀ j, row = some j → a.heap.size ≤ j) : a.grownBy c none :=
  ⟨k.os.trans h.os, k.tape.trans h.tape, k.output.trans h.output, Nat.le_trans h.size k.size, fun j hj hne => (k.block j (Nat.lt_of_lt_of_le hj h.size) (fun e => by have := hr j e.symm; omega)).trans (h.block j hj hne)⟩

theorem below_grown {w w' : World} (hb : Go.RowKit.Below w.heap.size w w') : w.grownBy w' none := ⟨hb.os, hb.tape, hb.output, hb.size, fun k hk _ => hb.block k hk⟩
theorem grown_below {w w' : World} (h : w.grownBy w' none) : Go.RowKit.Below w.heap.size w w' := ⟨h.os, h.tape, h.output, h.size, fun k hk => h.block k hk (by simp)⟩

theorem grown_drewN {w w' : World} {row : Option Nat} (h : w.grownBy w' row) (m : Nat) : w.grownBy (w'.drewN m) row := ⟨h.os, h.tape, h.output, h.size, h.block⟩

theorem own_drewN {w : World} {base : Nat} {e : TypeId} {size n : Nat} {v : Value} {xs : List Value} (h : w.ownsRow base e size v n xs) (m : Nat) : (w.drewN m).ownsRow base e size v n xs := by
  simpa [World.ownsRow] using h
theorem own_shape {w : World} {base : Nat} {e : TypeId} {size n : Nat} {v : Value} {xs : List Value} (h : w.ownsRow base e size v n xs) : ∃ o c, v = .slice o n c := by
  rcases h.2 with ⟨rfl, rfl⟩ | ⟨g, cap, cur, rfl, _⟩
  · exact ⟨_, _, rfl⟩
  · exact ⟨_, _, rfl⟩
theorem own_shape_pos {w : World} {base : Nat} {e : TypeId} {size n : Nat} {v : Value} {xs : List Value} (h : w.ownsRow base e size v n xs) (hn : 0 < n) : ∃ g c, v = .slice (some ⟨g, 0, none⟩) n c := by
  rcases h.2 with ⟨rfl, rfl⟩ | ⟨g, cap, cur, rfl, _⟩
  · omega
  · exact ⟨_, _, rfl⟩
theorem kept_new {W W' : World} {base n size : Nat} {e : TypeId} {u : Value} {xs : List Value} (h : W.ownsRow base e size u n xs) (hg : W.grownBy W' none) : W'.ownsRow base e size u n xs :=
  h.kept hg (by cases u.ownBlock with
    | none => exact .inl rfl
    | some k => exact .inr (by simp))

/-- Rows of two element types are two rows. -/
theorem own_apart {w : World} {b1 b2 s1 s2 n1 n2 : Nat} {e1 e2 : TypeId} {v u : Value} {xs ys : List Value} (h : w.ownsRow b1 e1 s1 v n1 xs) (k : w.ownsRow b2 e2 s2 u n2 ys) (he : e1 ≠ e2) :
    v.ownBlock = none ∨ v.ownBlock ≠ u.ownBlock := by
  rcases h.2 with ⟨rfl, _⟩ | ⟨g, cap, cur, rfl, _, hg, _⟩
  · exact .inl rfl
  · rcases k.2 with ⟨rfl, _⟩ | ⟨g', cap', cur', rfl, _, hg', _⟩
    · exact .inr (by simp [Value.ownBlock])
    · refine .inr fun e => ?_
      simp [Value.ownBlock] at e
      subst e
      rw [hg] at hg'
      simp at hg'
      exact he hg'.2

end Go.Proofs.Qxb6613348a.Own
