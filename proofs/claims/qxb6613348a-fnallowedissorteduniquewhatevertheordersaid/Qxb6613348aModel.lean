/-
  THE WALK OF 'b1AllowModel': collect, sort, write out.
-/
import Derived.Test.Qxb6613348aClone
import Derived.Test.Qxb6613348aSortP
import Derived.BigQuiet
import Derived.Deep.QuietTactic
import Derived.Lib.SlBytesRow
import Derived.Lib.BufferRead
import Derived.Sort.Walk0
namespace Go.Proofs.Qxb6613348a
open Go.ChangeShapes Go.WideShapes Go.ChangeAt Go.RowKit Own

theorem cells_new (w : World) (xs : List Value) (t : TypeId) : ∀ j u, xs[j]? = some u → (w.alloc (.cells xs.toArray t)).cell? ((⟨w.heap.size, 0, none⟩ : Addr).add j) = some u := by
  intro j u hj
  rw [Addr.add_lit]
  simp [go_sem, hj]

theorem mem_take_succ (ns : List (List UInt8)) (k : Nat) (h : k < ns.length) (x : List UInt8) : (x ∈ ns.take (k + 1)) ↔ (x ∈ ns.take k ∨ x = ns[k]) := by
  rw [List.take_succ_eq_append_getElem h, List.mem_append, List.mem_singleton]

/-- The exchange of two neighbours. -/
theorem swap_own {wr : World} {base g N cap : Nat} {a t : List (List UInt8)} {x y : List UInt8} (ho : wr.ownsRow base 9 1 (.slice (some ⟨g, 0, none⟩) N cap) N ((a ++ y :: x :: t).map encStr)) (m : Nat) :
    (((wr.drewN m).setCell ⟨g, a.length, none⟩ (encStr x)).setCell ⟨g, a.length + 1, none⟩ (encStr y)).ownsRow base 9 1 (.slice (some ⟨g, 0, none⟩) N cap) N ((a ++ x :: y :: t).map encStr) ∧
    wr.grownBy (((wr.drewN m).setCell ⟨g, a.length, none⟩ (encStr x)).setCell ⟨g, a.length + 1, none⟩ (encStr y)) (some g) := by
  have h1 := (own_drewN ho m).stored a.length (encStr x)
  have h2 := h1.1.stored (a.length + 1) (encStr y)
  rw [swap_set] at h2
  refine ⟨h2.1, ⟨h2.2.os.trans h1.2.os, h2.2.tape.trans h1.2.tape, h2.2.output.trans h1.2.output, Nat.le_trans h1.2.size h2.2.size, fun k hk hne => ?_⟩⟩
  exact (h2.2.block k (Nat.lt_of_lt_of_le hk h1.2.size) hne).trans (h1.2.block k hk hne)

/-- A list of bytes as cells. -/
def bc (l : List UInt8) : List Value := l.map fun b => Value.int .u8 b.toNat
theorem bc_append (a b : List UInt8) : bc (a ++ b) = bc a ++ bc b := List.map_append
theorem bc_length (l : List UInt8) : (bc l).length = l.length := List.length_map _

/-- The kept ones of the first k; what is written of them. -/
def cu (P : List (List UInt8)) (k : Nat) : List (List UInt8) := Lib.compactUpTo P.toArray k
def jn (P : List (List UInt8)) (k : Nat) : List UInt8 := Lib.join (cu P k) sSep

theorem jn_zero (P : List (List UInt8)) : jn P 0 = [] ∧ (cu P 0).length = 0 := by
  constructor <;> simp [jn, cu, Lib.compactUpTo, Lib.join, List.intercalate]
theorem cu_keep (P : List (List UInt8)) (k : Nat) (hk : k < P.length) (h : k = 0 ∨ P[k] ≠ P[k - 1]'(by omega)) : cu P (k + 1) = cu P k ++ [P[k]] := by
  have e : P.toArray[k]! = P[k] := by simp [hk]
  have e2 : P.toArray[k - 1]! = P[k - 1]'(by omega) := by simp [show k - 1 < P.length by omega]
  unfold cu
  rw [Lib.compactUpTo_succ, if_pos (by simp only [Lib.keeps, decide_eq_true_eq, e, e2]; exact h), e]
theorem cu_skip (P : List (List UInt8)) (k : Nat) (h0 : 0 < k) (hk : k < P.length) (h : P[k] = P[k - 1]'(by omega)) : cu P (k + 1) = cu P k := by
  have e : P.toArray[k]! = P[k] := by simp [hk]
  have e2 : P.toArray[k - 1]! = P[k - 1]'(by omega) := by simp [show k - 1 < P.length by omega]
  unfold cu
  rw [Lib.compactUpTo_succ, if_neg, List.append_nil]
  simp only [Lib.keeps, decide_eq_true_eq, e, e2, not_or]
  exact ⟨by omega, fun hn => hn h⟩
theorem jn_first (P : List (List UInt8)) (hk : 0 < P.length) : jn P 1 = P[0] ∧ (cu P 1).length = 1 := by
  have h := cu_keep P 0 hk (.inl rfl)
  have h0 : cu P 0 = [] := List.eq_nil_of_length_eq_zero (jn_zero P).2
  rw [Nat.zero_add, h0, List.nil_append] at h
  exact ⟨by rw [jn, h, join_one], by rw [h]; rfl⟩
theorem jn_next (P : List (List UInt8)) (k : Nat) (h0 : 0 < k) (hk : k < P.length) (h : P[k] ≠ P[k - 1]'(by omega)) : jn P (k + 1) = jn P k ++ [44, 32] ++ P[k] ∧ (cu P (k + 1)).length = (cu P k).length + 1 := by
  have h1 := cu_keep P k hk (.inr h)
  refine ⟨?_, by rw [h1, List.length_append]; rfl⟩
  rw [jn, h1, join_snoc (cu P k) _ _ (compactUpTo_ne P k h0)]
  rfl
theorem jn_skip (P : List (List UInt8)) (k : Nat) (h0 : 0 < k) (hk : k < P.length) (h : P[k] = P[k - 1]'(by omega)) : jn P (k + 1) = jn P k ∧ (cu P (k + 1)).length = (cu P k).length := by
  have h1 := cu_skip P k h0 hk h
  exact ⟨by rw [jn, h1]; rfl, by rw [h1]⟩
theorem jn_small (P : List (List UInt8)) (k : Nat) (hk : k ≤ P.length) : (jn P k).length ≤ tot P + 2 * P.length ∧ (cu P k).length ≤ k := by
  have h := compactUpTo_small P k hk
  have h2 := join_len (cu P k) sSep
  have h3 := tot_take_le P k
  have h4 : sSep.length = 2 := rfl
  rw [h4] at h2
  have h5 : tot (cu P k) ≤ tot (P.take k) := h.1
  have h6 : (cu P k).length ≤ k := h.2
  exact ⟨by unfold jn; omega, h6⟩
theorem cu_pos (P : List (List UInt8)) (k : Nat) (h0 : 0 < k) : 0 < (cu P k).length := List.length_pos_iff.2 (compactUpTo_ne P k h0)

theorem jn_allow (ns P : List (List UInt8)) (hA : Asc P) (hp : P.Perm (withHead ns)) : jn P P.length = allow ns := by
  have e : (withHead ns).mergeSort leB = P := asc_unique (asc_mergeSort _) hA ((List.mergeSort_perm _ leB).trans hp.symm)
  unfold allow canon
  rw [e]
  rfl

theorem own_bytes {w : World} {base g n cap : Nat} {l : List UInt8} (h : w.ownsRow base 5 1 (.slice (some ⟨g, 0, none⟩) n cap) n (bc l)) : l.length = n ∧ Go.Lib.Bytes w g 0 ⟨l.toArray⟩ := by
  have hn : l.length = n := by have := h.1; rw [bc_length] at this; omega
  refine ⟨hn, fun i hi => ?_⟩
  have hi' : i < l.length := hi
  rw [Nat.zero_add, h.cellAt i (by omega)]
  simp only [bc, List.getElem?_map, List.getElem?_eq_getElem hi', Option.map_some]
  rfl

theorem conv_own {w : World} {base : Nat} {v : Value} {l : List UInt8} (h : w.ownsRow base 5 1 v l.length (bc l)) : ∃ o c, v = .slice o l.length c ∧ (convert 27 9 (.slice o l.length c)).run Try.prog w = .ok (.string ⟨l.toArray⟩) w := by
  rcases h.2 with ⟨rfl, hz⟩ | ⟨g, cap, cur, rfl, _⟩
  · have hl : l = [] := List.eq_nil_of_length_eq_zero hz
    subst hl
    exact ⟨none, 0, rfl, Go.Lib.run_convert_nil_bytes w 27 9 5 0 Try.underlying27 Try.underlying5 Try.underlying9⟩
  · exact ⟨some ⟨g, 0, none⟩, cap, rfl, Go.Lib.run_convert_whole w 27 5 9 Try.underlying27 Try.underlying5 Try.underlying9 g 0 ⟨l.toArray⟩ (own_bytes h).2 cap⟩

/-- Behind the append of the separator the list's row still holds what it held. -/
theorem sep_cell {wr w4 : World} {B N cap n : Nat} {out v1 : Value} {P : List (List UInt8)} {xs : List Value} (ho : wr.ownsRow B 9 1 (.slice (some ⟨B, 0, none⟩) N cap) N (P.map encStr)) (hout : wr.ownsRow B 5 1 out n xs)
    (nq : Nat) (ob : Obj) (hs : Step ((wr.drewN nq).alloc ob) w4 out v1) (k : Nat) (s : List UInt8) (hc : wr.cell? ⟨B, k, none⟩ = some (encStr s)) : w4.cell? ⟨B, k, none⟩ = some (encStr s) := by
  have h1 : ((wr.drewN nq).alloc ob).cell? ⟨B, k, none⟩ = some (encStr s) := by
    rw [World.cell?_alloc_lt _ _ _ (by simpa using World.block_lt_of_cell? wr _ hc)]
    exact hc
  refine hs.grown.cell h1 ?_
  rcases own_apart ho hout (by decide) with h | h
  · simp [Value.ownBlock] at h
  · exact h
theorem sep_size {wr w4 : World} {B nq : Nat} {ob : Obj} {out v1 : Value} (hsz : B ≤ wr.heap.size) (hs : Step ((wr.drewN nq).alloc ob) w4 out v1) : B ≤ w4.heap.size := by
  have := hs.grown.size
  simp at this
  omega

theorem size_mk (l : List UInt8) : (ByteArray.mk l.toArray).size = l.length := rfl

/-- Is GET among the first k? -/
def hasB (ns : List (List UInt8)) (k : Nat) : Bool := decide (sGET ∈ ns.take k)

theorem info5 : (Try.prog.info? 5).map (fun i => (i.zero, i.size, i.bytes)) = some (some (.int .u8 0), 1, 1) := by kernel_rfl

set_option maxHeartbeats 4000000 in
set_option maxRecDepth 100000 in
theorem model_get (w : World) (o : Option Addr) (c : Nat) (ns : List (List UInt8)) (hn : ns.length ≤ 8192) (ht : tot ns ≤ 4194304) (hr : Reads w o ns) (hG : sGET ∈ ns) :
    Calls Try.prog 8 #[.slice o ns.length c] w fun e w' => e = .returned (.string ⟨(allow ns).toArray⟩) ∧ w.grownBy w' none := by
  obtain ⟨i0, hi, hz0, hz1, hz2⟩ := info_parts info9
  have HL : Hid (withHead ns = ns ++ [sHEAD]) := by
    show _ = _
    simp [withHead, hG]
  go_enter Try.func8, Try.ntmps8
  go_wp2_with (refine wpList_make_own _ rfl _ (.tmp 14) 22 rfl w.heap.size 9 i0 (.string ⟨#[]⟩) 1 Try.underlying22 hi hz0 hz1 .i64 .i64 ((ns.length : Int) + 1) (ns.length + 1) rfl rfl (by omega) (by rw [hz2]; omega) (by unfold maxLen; omega) (Nat.le_refl _) ?_; intro w1 h1 h2)
  go_loopw [3, 4, 5] (fun v g i wr => ∃ k : Nat, k ≤ ns.length ∧ i = .int .i64 (k : Int) ∧ v = .slice (some ⟨w.heap.size, 0, none⟩) k (ns.length + 1) ∧ g = .bool (hasB ns k) ∧
      wr.ownsRow w.heap.size 9 1 (.slice (some ⟨w.heap.size, 0, none⟩) k (ns.length + 1)) k ((ns.take k).map encStr) ∧ w.grownBy wr none)
    (fun _ _ i _ => ns.length - (intOf i).toNat)
  case atStart => exact ⟨0, Nat.zero_le _, rfl, rfl, by simp [hasB], by simpa using h1, h2⟩
  case round =>
    clear h1 h2 w1
    obtain ⟨k, hk, rfl, rfl, rfl, ho, hg⟩ := hrel
    by_cases hlt : k < ns.length
    · obtain ⟨x, rfl, hc0⟩ := hr k ns[k] (List.getElem?_eq_getElem hlt)
      have hc : wr.cell? (x.add k) = some (encStr ns[k]) := hg.cell hc0 (by simp)
      have hxb : (x.add k).block < w.heap.size := World.block_lt_of_cell? w _ hc0
      have HM : Hid (sGET ∈ ns.take (k + 1) ↔ (sGET ∈ ns.take k ∨ sGET = ns[k])) := mem_take_succ ns k hlt sGET
      have HT : Hid ((ns.take k).map encStr ++ [encStr ns[k]] = (ns.take (k + 1)).map encStr) := by
        show _ = _
        rw [List.take_succ_eq_append_getElem hlt, List.map_append]; rfl
      clear hc0
      by_cases heq : ns[k] = sGET
      · have hb : (ns[k] == [71, 69, 84]) = true := by rw [heq]; decide
        have HG : Hid (ns[k] = sGET) := heq
        clear heq
        go_wp2_with (at_builtin; refine wpList_append_fits _ rfl (.tmp 22) (.tmp 27) 22 rfl w.heap.size 9 i0 1 Try.underlying22 hi hz1 w.heap.size k (ns.length + 1) ((ns.take k).map encStr) rfl (ho.alloc _) ⟨wr.heap.size, 0, none⟩ 1 1 [encStr ns[k]] rfl rfl (cells_new _ _ _) (by simp [Value.oneCell']) (by omega) ?_; intro w2 ho2 hg2; have hc2 : w2.cell? (x.add k) = some (encStr ns[k]) := hg2.cell (a := x.add k) ((World.cell?_alloc_lt wr _ (x.add k) (by have := hg.size; omega)).trans hc) (by simp; omega))
        go_roundw
        case rel =>
          refine ⟨k + 1, by omega, by go_num, rfl, ?_, ?_, grown_trans (grown_trans hg (World.grownBy_alloc wr _ none) (fun j e => by cases e)) hg2 (fun j e => by cases e; exact Nat.le_refl _)⟩
          · rw [show hasB ns (k + 1) = true from decide_eq_true (HM.out.2 (.inr HG.out.symm))]
          · rw [← HT.out]; exact ho2
        case measure => simp [intOf]; omega
      · have hb : (ns[k] == [71, 69, 84]) = false := by
          rw [beq_eq_false_iff_ne]; exact heq
        have HG : Hid (¬ ns[k] = sGET) := heq
        clear heq
        go_wp2_with (at_builtin; refine wpList_append_fits _ rfl (.tmp 22) (.tmp 27) 22 rfl w.heap.size 9 i0 1 Try.underlying22 hi hz1 w.heap.size k (ns.length + 1) ((ns.take k).map encStr) rfl (ho.alloc _) ⟨wr.heap.size, 0, none⟩ 1 1 [encStr ns[k]] rfl rfl (cells_new _ _ _) (by simp [Value.oneCell']) (by omega) ?_; intro w2 ho2 hg2; have hc2 : w2.cell? (x.add k) = some (encStr ns[k]) := hg2.cell (a := x.add k) ((World.cell?_alloc_lt wr _ (x.add k) (by have := hg.size; omega)).trans hc) (by simp; omega))
        go_roundw
        case rel =>
          refine ⟨k + 1, by omega, by go_num, rfl, ?_, ?_, grown_trans (grown_trans hg (World.grownBy_alloc wr _ none) (fun j e => by cases e)) hg2 (fun j e => by cases e; exact Nat.le_refl _)⟩
          · refine congrArg Value.bool (decide_eq_decide.2 ?_)
            rw [HM.out]
            exact ⟨.inl, fun h => h.elim id (fun h => absurd h.symm HG.out)⟩
          · rw [← HT.out]; exact ho2
        case measure => simp [intOf]; omega
    · obtain rfl : k = ns.length := by omega
      rw [List.take_length] at ho
      have hgb : hasB ns ns.length = true := by unfold hasB; rw [List.take_length]; simp [hG]
      rw [hgb]
      clear hlt hk hgb
      go_wp2_with (at_builtin; refine wpList_append_fits _ rfl (.tmp 35) (.tmp 36) 22 rfl w.heap.size 9 i0 1 Try.underlying22 hi hz1 w.heap.size ns.length (ns.length + 1) (ns.map encStr) rfl (ho.alloc _) ⟨wr.heap.size, 0, none⟩ 1 1 [.string ⟨#[72, 69, 65, 68]⟩] rfl rfl (cells_new _ _ _) (by simp [Value.oneCell']) (by omega) ?_; intro w2 ho2 hg2)
      have hL : w2.ownsRow w.heap.size 9 1 (.slice (some ⟨w.heap.size, 0, none⟩) (ns.length + 1) (ns.length + 1)) (ns.length + 1) ((ns ++ [sHEAD]).map encStr) := by
        rw [List.map_append]; exact ho2
      have hgL : w.grownBy w2 none := grown_trans (grown_trans hg (World.grownBy_alloc wr _ none) (fun j e => by cases e)) hg2 (fun j e => by cases e; exact Nat.le_refl _)
      have HP : Hid ((withHead ns).length = ns.length + 1 ∧ tot (withHead ns) ≤ tot ns + 4) := by
        rw [HL.out]; exact ⟨by simp, by rw [tot_append]; exact Nat.le_refl _⟩
      rw [← HL.out] at hL
      clear ho hg ho2 hg2
      go_loopw [6] (fun i wr => ∃ k : Nat, 1 ≤ k ∧ i = .int .i64 (k : Int) ∧ ∃ P R, Asc P ∧ P.length = min k (ns.length + 1) ∧ (P ++ R).Perm (withHead ns) ∧
          wr.ownsRow w.heap.size 9 1 (.slice (some ⟨w.heap.size, 0, none⟩) (ns.length + 1) (ns.length + 1)) (ns.length + 1) ((P ++ R).map encStr) ∧ w.grownBy wr none)
        (fun i _ => (ns.length + 1) - (intOf i).toNat)
      case atStart =>
        refine ⟨1, Nat.le_refl _, rfl, (withHead ns).take 1, (withHead ns).drop 1, ?_, ?_, ?_, ?_, hgL⟩
        · cases withHead ns with
          | nil => exact List.Pairwise.nil
          | cons a r => simp [Asc]
        · rw [List.length_take, HP.out.1]
        · rw [List.take_append_drop]
        · rw [List.take_append_drop]; exact hL
      case round =>
        clear hL hgL
        obtain ⟨k, hk1, rfl, P, R, hAsc, hPl, hperm, ho, hg⟩ := hrel
        have hlen : Hid ((P ++ R).length = ns.length + 1) := own_len ho
        by_cases hlt : k < ns.length + 1
        · have hPk : P.length = k := by rw [hPl]; omega
          obtain ⟨x, R', rfl⟩ : ∃ x R', R = x :: R' := by
            cases R with
            | nil => have := hlen.out; simp at this; omega
            | cons x R' => exact ⟨x, R', rfl⟩
          have HA : Hid (Asc P) := hAsc
          have HPP : Hid ((P ++ x :: R').Perm (withHead ns)) := hperm
          have HPk : Hid (P.length = k) := hPk
          clear hAsc hperm hPl hPk hlen
          go_wp2
          go_loopw [7] (fun j wr => ∃ a b, a ++ b = P ∧ j = .int .i64 ((a.length : Nat) : Int) ∧ (∀ y ∈ b, x ≤ y) ∧
              wr.ownsRow w.heap.size 9 1 (.slice (some ⟨w.heap.size, 0, none⟩) (ns.length + 1) (ns.length + 1)) (ns.length + 1) ((a ++ x :: (b ++ R')).map encStr) ∧ w.grownBy wr none)
            (fun j _ => (intOf j).toNat)
          case atStart => exact ⟨P, [], List.append_nil _, by rw [HPk.out], fun y hy => (by cases hy), ho, hg⟩
          case round =>
            clear ho hg
            obtain ⟨a, b, hab, rfl, hb, ho, hg⟩ := hrel
            rcases List.eq_nil_or_concat a with rfl | ⟨a', y, rfl⟩
            · have hbP : Hid (b = P) := hab
              have Hb : Hid (∀ y ∈ b, x ≤ y) := hb
              clear hab hb
              go_wp2
              go_quiet (fail)
              go_wp2
              go_roundw
              case rel =>
                refine ⟨k + 1, by omega, by go_num, x :: b, R', ?_, ?_, ?_, own_drewN ho _, grown_drewN hg _⟩
                · have h := HA.out
                  rw [← hbP.out] at h
                  exact asc_insert (a := []) h (fun y hy => by cases hy) Hb.out
                · have h1 := HPk.out
                  rw [← hbP.out] at h1
                  simp only [List.length_cons]; omega
                · have h := perm_mid [] b R' x
                  rw [List.nil_append] at h
                  refine List.Perm.trans ?_ HPP.out
                  rw [← hbP.out]
                  exact h
              case measure => simp [intOf]; omega
            · rw [List.length_concat]
              rw [List.concat_eq_append] at hab ho
              have hlist : (a' ++ [y]) ++ x :: (b ++ R') = a' ++ y :: x :: (b ++ R') := by simp
              rw [hlist] at ho
              have hlN : a'.length + 1 < ns.length + 1 := by have := own_len ho; simp at this; omega
              have c1 : wr.cell? ⟨w.heap.size, a'.length, none⟩ = some (encStr y) := own_get ho _ _ (by simp)
              have c2 : wr.cell? ⟨w.heap.size, a'.length + 1, none⟩ = some (encStr x) := own_get ho _ _ (by simp)
              have f1 := ho.frozenAt a'.length
              have f2 := ho.frozenAt (a'.length + 1)
              have Hab : Hid ((a' ++ [y]) ++ b = P) := hab
              have Hb : Hid (∀ y ∈ b, x ≤ y) := hb
              clear hab hb hlist
              by_cases hxy : x < y
              · have hl : Op.bytesLess x y = true := by rw [bytesLess_eq]; simpa using hxy
                have HX : Hid (x < y) := hxy
                clear hxy
                go_wp2
                go_quiet (fail)
                go_wp2
                go_roundw
                case rel =>
                  refine ⟨a', y :: b, by have := Hab.out; simpa using this, rfl, ?_, (swap_own ho _).1, grown_trans hg (swap_own ho _).2 (fun j e => by cases e; exact Nat.le_refl _)⟩
                  intro z hz
                  rcases List.mem_cons.1 hz with rfl | hz
                  · exact List.le_of_lt HX.out
                  · exact Hb.out z hz
                case measure => simp [intOf]
              · have hl : Op.bytesLess x y = false := by rw [bytesLess_eq]; simpa using hxy
                have HX : Hid (¬ x < y) := hxy
                clear hxy
                go_wp2
                go_quiet (fail)
                go_wp2
                go_roundw
                case rel =>
                  refine ⟨k + 1, by omega, by go_num, (a' ++ [y]) ++ x :: b, R', ?_, ?_, ?_, ?_, grown_drewN hg _⟩
                  · have h := HA.out
                    rw [← Hab.out] at h
                    exact asc_insert h (fun z hz => List.le_trans (asc_last h z hz) (List.not_lt.1 HX.out)) Hb.out
                  · have h1 := HPk.out
                    rw [← Hab.out] at h1
                    simp only [List.length_append, List.length_cons, List.length_nil] at h1 ⊢; omega
                  · have h := perm_mid (a' ++ [y]) b R' x
                    refine List.Perm.trans ?_ HPP.out
                    rw [← Hab.out]
                    simpa using h
                  · have e : (a' ++ [y]) ++ x :: b ++ R' = a' ++ y :: x :: (b ++ R') := by simp
                    rw [e]
                    exact own_drewN ho _
                case measure => simp [intOf]; omega
        · have hPl2 : P.length = ns.length + 1 := by rw [hPl]; omega
          have hR : R = [] := by
            have := hlen.out
            rw [List.length_append] at this
            exact List.eq_nil_of_length_eq_zero (by omega)
          subst hR
          rw [List.append_nil] at ho hperm
          have HA : Hid (Asc P) := hAsc
          have HPP : Hid (P.Perm (withHead ns)) := hperm
          have hge : ns.length + 1 ≤ k := by omega
          clear hAsc hperm hPl hlen hlt
          obtain ⟨i5, hi5, hy0, hy1, hy2⟩ := info_parts info5
          go_wp2_with (refine wpList_make_own _ rfl _ _ 27 rfl w.heap.size 5 i5 (.int .u8 0) 1 Try.underlying27 hi5 hy0 hy1 .i64 .i64 64 64 rfl rfl rfl (by rw [hy2]; omega) (by unfold maxLen; omega) hg.size ?_; intro w3 ho3 hg3)
          have hoL := kept_new ho hg3
          have hgL := grown_trans hg hg3 (fun j e => by cases e)
          have HTP : Hid (tot P ≤ 4194308) := by
            have h1 := tot_perm HPP.out
            have h2 := HP.out.2
            show _ ≤ _
            omega
          have HPl : Hid (P.length = ns.length + 1) := hPl2
          clear ho hg hg3 hPl2
          go_loopw [9, 10, 11] (fun out kept i wr => ∃ k : Nat, k ≤ ns.length + 1 ∧ i = .int .i64 (k : Int) ∧ kept = .int .i64 (((cu P k).length : Nat) : Int) ∧ wr.ownsRow w.heap.size 5 1 out (jn P k).length (bc (jn P k)) ∧
              wr.ownsRow w.heap.size 9 1 (.slice (some ⟨w.heap.size, 0, none⟩) (ns.length + 1) (ns.length + 1)) (ns.length + 1) (P.map encStr) ∧ w.grownBy wr none)
            (fun _ _ i _ => (ns.length + 1) - (intOf i).toNat)
          case atStart =>
            refine ⟨0, Nat.zero_le _, rfl, by rw [(jn_zero P).2]; rfl, ?_, hoL, hgL⟩
            rw [(jn_zero P).1]; exact ho3
          case round =>
            clear ho3 hoL hgL hge
            obtain ⟨k, hk, rfl, rfl, hout, ho, hg⟩ := hrel
            by_cases hlt : k < ns.length + 1
            · have hkP : k < P.length := by rw [HPl.out]; exact hlt
              have hPN : P.length ≤ 8193 := by rw [HPl.out]; omega
              have hsm := (jn_small P k (by omega)).1
              have hT := HTP.out
              have hPk : P[k].length ≤ tot P := tot_mem (List.getElem_mem hkP)
              have hcl := (jn_small P k (by omega)).2
              have ck : wr.cell? ⟨w.heap.size, k, none⟩ = some (encStr P[k]) := own_get ho _ _ (List.getElem?_eq_getElem hkP)
              have hsz : w.heap.size ≤ wr.heap.size := hg.size
              by_cases h0 : k = 0
              · have J1 : Hid (jn P (k + 1) = jn P k ++ P[k] ∧ (cu P (k + 1)).length = (cu P k).length + 1) := by
                  subst h0
                  have a := jn_first P hkP
                  have b := jn_zero P
                  show _ ∧ _
                  rw [a.1, b.1, a.2, b.2]
                  exact ⟨rfl, rfl⟩
                have kz : decide (0 < (cu P k).length) = false := by subst h0; rw [(jn_zero P).2]; rfl
                have b0 : decide (0 < k) = false := by simp; omega
                clear h0
                go_wp2
                go_quiet (fail)
                go_wp2_with (at_builtin; refine wpList_append_string_strong _ rfl (.tmp 104) (.tmp 108) 27 9 rfl w.heap.size 5 i5 Try.underlying27 Try.underlying9 hi5 hy0 hy1 hy2 u9 (jn P k).length (bc (jn P k)) rfl (own_drewN hout _) ⟨(P[k]).toArray⟩ rfl (by rw [size_mk]; unfold maxLen; omega) (by rw [size_mk]; omega) hsz ?_; intro v2 w5 ho5 hs5)
                go_roundw
                case rel =>
                  refine ⟨k + 1, by omega, by go_num, by rw [J1.out.2]; go_num, ?_, ?_, ?_⟩
                  · rw [J1.out.1, List.length_append, bc_append]; exact ho5
                  · exact hs5.kept (own_drewN ho _) (own_apart ho hout (by decide))
                  · exact grown_trans (grown_drewN hg _) hs5.grown (fun j e => (hout.lt j e).1)
                case measure => simp [intOf]; omega
              · have hk0 : 0 < k := by omega
                have hk1P : k - 1 < P.length := by omega
                have ck1 : wr.cell? ⟨w.heap.size, k - 1, none⟩ = some (encStr P[k - 1]) := own_get ho _ _ (List.getElem?_eq_getElem hk1P)
                have kz := cu_pos P k hk0
                by_cases heq : P[k] = P[k - 1]
                · have J1 : Hid (jn P (k + 1) = jn P k ∧ (cu P (k + 1)).length = (cu P k).length) := jn_skip P k hk0 hkP heq
                  have hb : (P[k] == P[k - 1]) = true := by rw [heq]; simp
                  clear heq
                  go_wp2
                  go_quiet (fail)
                  go_wp2
                  go_roundw
                  case rel =>
                    refine ⟨k + 1, by omega, by go_num, by rw [J1.out.2], ?_, own_drewN ho _, grown_drewN hg _⟩
                    rw [J1.out.1]; exact own_drewN hout _
                  case measure => simp [intOf]; omega
                · have J1 : Hid (jn P (k + 1) = jn P k ++ [44, 32] ++ P[k] ∧ (cu P (k + 1)).length = (cu P k).length + 1) := jn_next P k hk0 hkP heq
                  have hb : (P[k] == P[k - 1]) = false := by rw [beq_eq_false_iff_ne]; exact heq
                  clear heq
                  go_wp2
                  go_quiet (fail)
                  go_wp2_with (first
                    | (at_builtin; refine wpList_append_strong _ rfl (.tmp 101) (.tmp 102) 27 rfl w.heap.size 5 i5 (.int .u8 0) 1 1 Try.underlying27 hi5 hy0 hy1 hy2 rfl (by decide) u9 (jn P k).length (bc (jn P k)) rfl ((own_drewN hout _).alloc _) ⟨wr.heap.size, 0, none⟩ 2 2 [.int .u8 44, .int .u8 32] rfl rfl (cells_new _ _ _) (by simp [Value.oneCell']) (by unfold maxLen; omega) (by omega) (by simp; omega) ?_; intro v1 w4 ho4 hs4; have hc4 := sep_cell ho hout _ _ hs4 k P[k] ck; have hsz4 := sep_size hsz hs4)
                    | (at_builtin; refine wpList_append_string_strong _ rfl (.tmp 104) (.tmp 108) 27 9 rfl w.heap.size 5 i5 Try.underlying27 Try.underlying9 hi5 hy0 hy1 hy2 v1 ((jn P k).length + 2) (bc (jn P k) ++ [.int .u8 44, .int .u8 32]) rfl ho4 ⟨(P[k]).toArray⟩ rfl (by rw [size_mk]; unfold maxLen; omega) (by rw [size_mk]; omega) hsz4 ?_; intro v2 w5 ho5 hs5))
                  have hst : Step (wr.drewN _) w5 u9 v2 := ((Step.alloc _ _ _).trans hs4).trans hs5
                  go_roundw
                  case rel =>
                    refine ⟨k + 1, by omega, by go_num, by rw [J1.out.2]; go_num, ?_, ?_, ?_⟩
                    · rw [J1.out.1, List.length_append, List.length_append, bc_append, bc_append]; exact ho5
                    · exact hst.kept (own_drewN ho _) (own_apart ho hout (by decide))
                    · exact grown_trans (grown_drewN hg _) hst.grown (fun j e => (hout.lt j e).1)
                  case measure => simp [intOf]; omega
            · obtain rfl : k = ns.length + 1 := by omega
              have HJ : Hid (jn P (ns.length + 1) = allow ns) := by
                show _ = _
                rw [← HPl.out]
                exact jn_allow ns P HA.out HPP.out
              obtain ⟨qo, co, rfl, hcv⟩ := conv_own hout
              have HG : Hid (w.grownBy wr none) := hg
              clear hout ho hg hlt hk
              go_wp2
              go_ret
              refine ⟨?_, HG.out⟩
              rw [← HJ.out]
              rfl


set_option maxHeartbeats 4000000 in
set_option maxRecDepth 100000 in
theorem model_no (w : World) (o : Option Addr) (c : Nat) (ns : List (List UInt8)) (hn : ns.length ≤ 8192) (ht : tot ns ≤ 4194304) (hr : Reads w o ns) (hG : ¬ sGET ∈ ns) :
    Calls Try.prog 8 #[.slice o ns.length c] w fun e w' => e = .returned (.string ⟨(allow ns).toArray⟩) ∧ w.grownBy w' none := by
  obtain ⟨i0, hi, hz0, hz1, hz2⟩ := info_parts info9
  have HL : Hid (withHead ns = ns) := by
    show _ = _
    simp [withHead, hG]
  go_enter Try.func8, Try.ntmps8
  go_wp2_with (refine wpList_make_own _ rfl _ (.tmp 14) 22 rfl w.heap.size 9 i0 (.string ⟨#[]⟩) 1 Try.underlying22 hi hz0 hz1 .i64 .i64 ((ns.length : Int) + 1) (ns.length + 1) rfl rfl (by omega) (by rw [hz2]; omega) (by unfold maxLen; omega) (Nat.le_refl _) ?_; intro w1 h1 h2)
  go_loopw [3, 4, 5] (fun v g i wr => ∃ k : Nat, k ≤ ns.length ∧ i = .int .i64 (k : Int) ∧ v = .slice (some ⟨w.heap.size, 0, none⟩) k (ns.length + 1) ∧ g = .bool (hasB ns k) ∧
      wr.ownsRow w.heap.size 9 1 (.slice (some ⟨w.heap.size, 0, none⟩) k (ns.length + 1)) k ((ns.take k).map encStr) ∧ w.grownBy wr none)
    (fun _ _ i _ => ns.length - (intOf i).toNat)
  case atStart => exact ⟨0, Nat.zero_le _, rfl, rfl, by simp [hasB], by simpa using h1, h2⟩
  case round =>
    clear h1 h2 w1
    obtain ⟨k, hk, rfl, rfl, rfl, ho, hg⟩ := hrel
    by_cases hlt : k < ns.length
    · obtain ⟨x, rfl, hc0⟩ := hr k ns[k] (List.getElem?_eq_getElem hlt)
      have hc : wr.cell? (x.add k) = some (encStr ns[k]) := hg.cell hc0 (by simp)
      have hxb : (x.add k).block < w.heap.size := World.block_lt_of_cell? w _ hc0
      have HM : Hid (sGET ∈ ns.take (k + 1) ↔ (sGET ∈ ns.take k ∨ sGET = ns[k])) := mem_take_succ ns k hlt sGET
      have HT : Hid ((ns.take k).map encStr ++ [encStr ns[k]] = (ns.take (k + 1)).map encStr) := by
        show _ = _
        rw [List.take_succ_eq_append_getElem hlt, List.map_append]; rfl
      clear hc0
      by_cases heq : ns[k] = sGET
      · have hb : (ns[k] == [71, 69, 84]) = true := by rw [heq]; decide
        have HG : Hid (ns[k] = sGET) := heq
        clear heq
        go_wp2_with (at_builtin; refine wpList_append_fits _ rfl (.tmp 22) (.tmp 27) 22 rfl w.heap.size 9 i0 1 Try.underlying22 hi hz1 w.heap.size k (ns.length + 1) ((ns.take k).map encStr) rfl (ho.alloc _) ⟨wr.heap.size, 0, none⟩ 1 1 [encStr ns[k]] rfl rfl (cells_new _ _ _) (by simp [Value.oneCell']) (by omega) ?_; intro w2 ho2 hg2; have hc2 : w2.cell? (x.add k) = some (encStr ns[k]) := hg2.cell (a := x.add k) ((World.cell?_alloc_lt wr _ (x.add k) (by have := hg.size; omega)).trans hc) (by simp; omega))
        go_roundw
        case rel =>
          refine ⟨k + 1, by omega, by go_num, rfl, ?_, ?_, grown_trans (grown_trans hg (World.grownBy_alloc wr _ none) (fun j e => by cases e)) hg2 (fun j e => by cases e; exact Nat.le_refl _)⟩
          · rw [show hasB ns (k + 1) = true from decide_eq_true (HM.out.2 (.inr HG.out.symm))]
          · rw [← HT.out]; exact ho2
        case measure => simp [intOf]; omega
      · have hb : (ns[k] == [71, 69, 84]) = false := by
          rw [beq_eq_false_iff_ne]; exact heq
        have HG : Hid (¬ ns[k] = sGET) := heq
        clear heq
        go_wp2_with (at_builtin; refine wpList_append_fits _ rfl (.tmp 22) (.tmp 27) 22 rfl w.heap.size 9 i0 1 Try.underlying22 hi hz1 w.heap.size k (ns.length + 1) ((ns.take k).map encStr) rfl (ho.alloc _) ⟨wr.heap.size, 0, none⟩ 1 1 [encStr ns[k]] rfl rfl (cells_new _ _ _) (by simp [Value.oneCell']) (by omega) ?_; intro w2 ho2 hg2; have hc2 : w2.cell? (x.add k) = some (encStr ns[k]) := hg2.cell (a := x.add k) ((World.cell?_alloc_lt wr _ (x.add k) (by have := hg.size; omega)).trans hc) (by simp; omega))
        go_roundw
        case rel =>
          refine ⟨k + 1, by omega, by go_num, rfl, ?_, ?_, grown_trans (grown_trans hg (World.grownBy_alloc wr _ none) (fun j e => by cases e)) hg2 (fun j e => by cases e; exact Nat.le_refl _)⟩
          · refine congrArg Value.bool (decide_eq_decide.2 ?_)
            rw [HM.out]
            exact ⟨.inl, fun h => h.elim id (fun h => absurd h.symm HG.out)⟩
          · rw [← HT.out]; exact ho2
        case measure => simp [intOf]; omega
    · obtain rfl : k = ns.length := by omega
      rw [List.take_length] at ho
      have hgb : hasB ns ns.length = false := by unfold hasB; rw [List.take_length]; simp [hG]
      rw [hgb]
      clear hlt hk hgb
      go_wp2_with fail
      obtain ⟨w2, hw2⟩ : ∃ w2, w2 = wr := ⟨_, rfl⟩
      subst hw2
      have hL : w2.ownsRow w.heap.size 9 1 (.slice (some ⟨w.heap.size, 0, none⟩) ns.length (ns.length + 1)) ns.length ((withHead ns).map encStr) := by
        rw [HL.out]; exact ho
      have hgL := hg
      have HP : Hid ((withHead ns).length = ns.length ∧ tot (withHead ns) ≤ tot ns + 4) := by
        rw [HL.out]; exact ⟨rfl, by omega⟩
      clear ho hg
      go_loopw [6] (fun i wr => ∃ k : Nat, 1 ≤ k ∧ i = .int .i64 (k : Int) ∧ ∃ P R, Asc P ∧ P.length = min k (ns.length) ∧ (P ++ R).Perm (withHead ns) ∧
          wr.ownsRow w.heap.size 9 1 (.slice (some ⟨w.heap.size, 0, none⟩) (ns.length) (ns.length + 1)) (ns.length) ((P ++ R).map encStr) ∧ w.grownBy wr none)
        (fun i _ => (ns.length) - (intOf i).toNat)
      case atStart =>
        refine ⟨1, Nat.le_refl _, rfl, (withHead ns).take 1, (withHead ns).drop 1, ?_, ?_, ?_, ?_, hgL⟩
        · cases withHead ns with
          | nil => exact List.Pairwise.nil
          | cons a r => simp [Asc]
        · rw [List.length_take, HP.out.1]
        · rw [List.take_append_drop]
        · rw [List.take_append_drop]; exact hL
      case round =>
        clear hL hgL
        obtain ⟨k, hk1, rfl, P, R, hAsc, hPl, hperm, ho, hg⟩ := hrel
        have hlen : Hid ((P ++ R).length = ns.length) := own_len ho
        by_cases hlt : k < ns.length
        · have hPk : P.length = k := by rw [hPl]; omega
          obtain ⟨x, R', rfl⟩ : ∃ x R', R = x :: R' := by
            cases R with
            | nil => have := hlen.out; simp at this; omega
            | cons x R' => exact ⟨x, R', rfl⟩
          have HA : Hid (Asc P) := hAsc
          have HPP : Hid ((P ++ x :: R').Perm (withHead ns)) := hperm
          have HPk : Hid (P.length = k) := hPk
          clear hAsc hperm hPl hPk hlen
          go_wp2
          go_loopw [7] (fun j wr => ∃ a b, a ++ b = P ∧ j = .int .i64 ((a.length : Nat) : Int) ∧ (∀ y ∈ b, x ≤ y) ∧
              wr.ownsRow w.heap.size 9 1 (.slice (some ⟨w.heap.size, 0, none⟩) (ns.length) (ns.length + 1)) (ns.length) ((a ++ x :: (b ++ R')).map encStr) ∧ w.grownBy wr none)
            (fun j _ => (intOf j).toNat)
          case atStart => exact ⟨P, [], List.append_nil _, by rw [HPk.out], fun y hy => (by cases hy), ho, hg⟩
          case round =>
            clear ho hg
            obtain ⟨a, b, hab, rfl, hb, ho, hg⟩ := hrel
            rcases List.eq_nil_or_concat a with rfl | ⟨a', y, rfl⟩
            · have hbP : Hid (b = P) := hab
              have Hb : Hid (∀ y ∈ b, x ≤ y) := hb
              clear hab hb
              go_wp2
              go_quiet (fail)
              go_wp2
              go_roundw
              case rel =>
                refine ⟨k + 1, by omega, by go_num, x :: b, R', ?_, ?_, ?_, own_drewN ho _, grown_drewN hg _⟩
                · have h := HA.out
                  rw [← hbP.out] at h
                  exact asc_insert (a := []) h (fun y hy => by cases hy) Hb.out
                · have h1 := HPk.out
                  rw [← hbP.out] at h1
                  simp only [List.length_cons]; omega
                · have h := perm_mid [] b R' x
                  rw [List.nil_append] at h
                  refine List.Perm.trans ?_ HPP.out
                  rw [← hbP.out]
                  exact h
              case measure => simp [intOf]; omega
            · rw [List.length_concat]
              rw [List.concat_eq_append] at hab ho
              have hlist : (a' ++ [y]) ++ x :: (b ++ R') = a' ++ y :: x :: (b ++ R') := by simp
              rw [hlist] at ho
              have hlN : a'.length + 1 < ns.length := by have := own_len ho; simp at this; omega
              have c1 : wr.cell? ⟨w.heap.size, a'.length, none⟩ = some (encStr y) := own_get ho _ _ (by simp)
              have c2 : wr.cell? ⟨w.heap.size, a'.length + 1, none⟩ = some (encStr x) := own_get ho _ _ (by simp)
              have f1 := ho.frozenAt a'.length
              have f2 := ho.frozenAt (a'.length + 1)
              have Hab : Hid ((a' ++ [y]) ++ b = P) := hab
              have Hb : Hid (∀ y ∈ b, x ≤ y) := hb
              clear hab hb hlist
              by_cases hxy : x < y
              · have hl : Op.bytesLess x y = true := by rw [bytesLess_eq]; simpa using hxy
                have HX : Hid (x < y) := hxy
                clear hxy
                go_wp2
                go_quiet (fail)
                go_wp2
                go_roundw
                case rel =>
                  refine ⟨a', y :: b, by have := Hab.out; simpa using this, rfl, ?_, (swap_own ho _).1, grown_trans hg (swap_own ho _).2 (fun j e => by cases e; exact Nat.le_refl _)⟩
                  intro z hz
                  rcases List.mem_cons.1 hz with rfl | hz
                  · exact List.le_of_lt HX.out
                  · exact Hb.out z hz
                case measure => simp [intOf]
              · have hl : Op.bytesLess x y = false := by rw [bytesLess_eq]; simpa using hxy
                have HX : Hid (¬ x < y) := hxy
                clear hxy
                go_wp2
                go_quiet (fail)
                go_wp2
                go_roundw
                case rel =>
                  refine ⟨k + 1, by omega, by go_num, (a' ++ [y]) ++ x :: b, R', ?_, ?_, ?_, ?_, grown_drewN hg _⟩
                  · have h := HA.out
                    rw [← Hab.out] at h
                    exact asc_insert h (fun z hz => List.le_trans (asc_last h z hz) (List.not_lt.1 HX.out)) Hb.out
                  · have h1 := HPk.out
                    rw [← Hab.out] at h1
                    simp only [List.length_append, List.length_cons, List.length_nil] at h1 ⊢; omega
                  · have h := perm_mid (a' ++ [y]) b R' x
                    refine List.Perm.trans ?_ HPP.out
                    rw [← Hab.out]
                    simpa using h
                  · have e : (a' ++ [y]) ++ x :: b ++ R' = a' ++ y :: x :: (b ++ R') := by simp
                    rw [e]
                    exact own_drewN ho _
                case measure => simp [intOf]; omega
        · have hPl2 : P.length = ns.length := by rw [hPl]; omega
          have hR : R = [] := by
            have := hlen.out
            rw [List.length_append] at this
            exact List.eq_nil_of_length_eq_zero (by omega)
          subst hR
          rw [List.append_nil] at ho hperm
          have HA : Hid (Asc P) := hAsc
          have HPP : Hid (P.Perm (withHead ns)) := hperm
          have hge : ns.length ≤ k := by omega
          clear hAsc hperm hPl hlen hlt
          obtain ⟨i5, hi5, hy0, hy1, hy2⟩ := info_parts info5
          go_wp2_with (refine wpList_make_own _ rfl _ _ 27 rfl w.heap.size 5 i5 (.int .u8 0) 1 Try.underlying27 hi5 hy0 hy1 .i64 .i64 64 64 rfl rfl rfl (by rw [hy2]; omega) (by unfold maxLen; omega) hg.size ?_; intro w3 ho3 hg3)
          have hoL := kept_new ho hg3
          have hgL := grown_trans hg hg3 (fun j e => by cases e)
          have HTP : Hid (tot P ≤ 4194308) := by
            have h1 := tot_perm HPP.out
            have h2 := HP.out.2
            show _ ≤ _
            omega
          have HPl : Hid (P.length = ns.length) := hPl2
          clear ho hg hg3 hPl2
          go_loopw [9, 10, 11] (fun out kept i wr => ∃ k : Nat, k ≤ ns.length ∧ i = .int .i64 (k : Int) ∧ kept = .int .i64 (((cu P k).length : Nat) : Int) ∧ wr.ownsRow w.heap.size 5 1 out (jn P k).length (bc (jn P k)) ∧
              wr.ownsRow w.heap.size 9 1 (.slice (some ⟨w.heap.size, 0, none⟩) (ns.length) (ns.length + 1)) (ns.length) (P.map encStr) ∧ w.grownBy wr none)
            (fun _ _ i _ => (ns.length) - (intOf i).toNat)
          case atStart =>
            refine ⟨0, Nat.zero_le _, rfl, by rw [(jn_zero P).2]; rfl, ?_, hoL, hgL⟩
            rw [(jn_zero P).1]; exact ho3
          case round =>
            clear ho3 hoL hgL hge
            obtain ⟨k, hk, rfl, rfl, hout, ho, hg⟩ := hrel
            by_cases hlt : k < ns.length
            · have hkP : k < P.length := by rw [HPl.out]; exact hlt
              have hPN : P.length ≤ 8193 := by rw [HPl.out]; omega
              have hsm := (jn_small P k (by omega)).1
              have hT := HTP.out
              have hPk : P[k].length ≤ tot P := tot_mem (List.getElem_mem hkP)
              have hcl := (jn_small P k (by omega)).2
              have ck : wr.cell? ⟨w.heap.size, k, none⟩ = some (encStr P[k]) := own_get ho _ _ (List.getElem?_eq_getElem hkP)
              have hsz : w.heap.size ≤ wr.heap.size := hg.size
              by_cases h0 : k = 0
              · have J1 : Hid (jn P (k + 1) = jn P k ++ P[k] ∧ (cu P (k + 1)).length = (cu P k).length + 1) := by
                  subst h0
                  have a := jn_first P hkP
                  have b := jn_zero P
                  show _ ∧ _
                  rw [a.1, b.1, a.2, b.2]
                  exact ⟨rfl, rfl⟩
                have kz : decide (0 < (cu P k).length) = false := by subst h0; rw [(jn_zero P).2]; rfl
                have b0 : decide (0 < k) = false := by simp; omega
                clear h0
                go_wp2
                go_quiet (fail)
                go_wp2_with (at_builtin; refine wpList_append_string_strong _ rfl (.tmp 104) (.tmp 108) 27 9 rfl w.heap.size 5 i5 Try.underlying27 Try.underlying9 hi5 hy0 hy1 hy2 u9 (jn P k).length (bc (jn P k)) rfl (own_drewN hout _) ⟨(P[k]).toArray⟩ rfl (by rw [size_mk]; unfold maxLen; omega) (by rw [size_mk]; omega) hsz ?_; intro v2 w5 ho5 hs5)
                go_roundw
                case rel =>
                  refine ⟨k + 1, by omega, by go_num, by rw [J1.out.2]; go_num, ?_, ?_, ?_⟩
                  · rw [J1.out.1, List.length_append, bc_append]; exact ho5
                  · exact hs5.kept (own_drewN ho _) (own_apart ho hout (by decide))
                  · exact grown_trans (grown_drewN hg _) hs5.grown (fun j e => (hout.lt j e).1)
                case measure => simp [intOf]; omega
              · have hk0 : 0 < k := by omega
                have hk1P : k - 1 < P.length := by omega
                have ck1 : wr.cell? ⟨w.heap.size, k - 1, none⟩ = some (encStr P[k - 1]) := own_get ho _ _ (List.getElem?_eq_getElem hk1P)
                have kz := cu_pos P k hk0
                by_cases heq : P[k] = P[k - 1]
                · have J1 : Hid (jn P (k + 1) = jn P k ∧ (cu P (k + 1)).length = (cu P k).length) := jn_skip P k hk0 hkP heq
                  have hb : (P[k] == P[k - 1]) = true := by rw [heq]; simp
                  clear heq
                  go_wp2
                  go_quiet (fail)
                  go_wp2
                  go_roundw
                  case rel =>
                    refine ⟨k + 1, by omega, by go_num, by rw [J1.out.2], ?_, own_drewN ho _, grown_drewN hg _⟩
                    rw [J1.out.1]; exact own_drewN hout _
                  case measure => simp [intOf]; omega
                · have J1 : Hid (jn P (k + 1) = jn P k ++ [44, 32] ++ P[k] ∧ (cu P (k + 1)).length = (cu P k).length + 1) := jn_next P k hk0 hkP heq
                  have hb : (P[k] == P[k - 1]) = false := by rw [beq_eq_false_iff_ne]; exact heq
                  clear heq
                  go_wp2
                  go_quiet (fail)
                  go_wp2_with (first
                    | (at_builtin; refine wpList_append_strong _ rfl (.tmp 101) (.tmp 102) 27 rfl w.heap.size 5 i5 (.int .u8 0) 1 1 Try.underlying27 hi5 hy0 hy1 hy2 rfl (by decide) u9 (jn P k).length (bc (jn P k)) rfl ((own_drewN hout _).alloc _) ⟨wr.heap.size, 0, none⟩ 2 2 [.int .u8 44, .int .u8 32] rfl rfl (cells_new _ _ _) (by simp [Value.oneCell']) (by unfold maxLen; omega) (by omega) (by simp; omega) ?_; intro v1 w4 ho4 hs4; have hc4 := sep_cell ho hout _ _ hs4 k P[k] ck; have hsz4 := sep_size hsz hs4)
                    | (at_builtin; refine wpList_append_string_strong _ rfl (.tmp 104) (.tmp 108) 27 9 rfl w.heap.size 5 i5 Try.underlying27 Try.underlying9 hi5 hy0 hy1 hy2 v1 ((jn P k).length + 2) (bc (jn P k) ++ [.int .u8 44, .int .u8 32]) rfl ho4 ⟨(P[k]).toArray⟩ rfl (by rw [size_mk]; unfold maxLen; omega) (by rw [size_mk]; omega) hsz4 ?_; intro v2 w5 ho5 hs5))
                  have hst : Step (wr.drewN _) w5 u9 v2 := ((Step.alloc _ _ _).trans hs4).trans hs5
                  go_roundw
                  case rel =>
                    refine ⟨k + 1, by omega, by go_num, by rw [J1.out.2]; go_num, ?_, ?_, ?_⟩
                    · rw [J1.out.1, List.length_append, List.length_append, bc_append, bc_append]; exact ho5
                    · exact hst.kept (own_drewN ho _) (own_apart ho hout (by decide))
                    · exact grown_trans (grown_drewN hg _) hst.grown (fun j e => (hout.lt j e).1)
                  case measure => simp [intOf]; omega
            · obtain rfl : k = ns.length := by omega
              have HJ : Hid (jn P (ns.length) = allow ns) := by
                show _ = _
                rw [← HPl.out]
                exact jn_allow ns P HA.out HPP.out
              obtain ⟨qo, co, rfl, hcv⟩ := conv_own hout
              have HG : Hid (w.grownBy wr none) := hg
              clear hout ho hg hlt hk
              go_wp2
              go_ret
              refine ⟨?_, HG.out⟩
              rw [← HJ.out]
              rfl


/-- 'b1AllowModel': the Allow value. -/
theorem model (w : World) (o : Option Addr) (c : Nat) (ns : List (List UInt8)) (hn : ns.length ≤ 8192) (ht : tot ns ≤ 4194304) (hr : Reads w o ns) :
    Calls Try.prog 8 #[.slice o ns.length c] w fun e w' => e = .returned (.string ⟨(allow ns).toArray⟩) ∧ w.grownBy w' none := by
  by_cases hG : sGET ∈ ns
  · exact model_get w o c ns hn ht hr hG
  · exact model_no w o c ns hn ht hr hG

end Go.Proofs.Qxb6613348a

