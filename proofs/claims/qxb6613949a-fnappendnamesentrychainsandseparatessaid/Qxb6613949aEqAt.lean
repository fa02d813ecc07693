/-
  THE WALK OF 'zzBytesEqualAt'.
-/
import Derived.Test.Qxb6613949aClone
import Derived.BigQuiet
import Derived.Deep.QuietTactic
namespace Go.Proofs.Qxb6613949a
open Go.ChangeShapes Go.WideShapes Go.ChangeAt Go.RowKit Own

/-- Does a hold b at position p? -/
def eqAt (a : List UInt8) (p : Nat) (b : List UInt8) : Bool := (a.drop p).take b.length == b

theorem eqAt_true (a : List UInt8) (p : Nat) (b : List UInt8) (h : ∀ j, j < b.length → a[p + j]? = b[j]?) : eqAt a p b = true := by
  simp only [eqAt, beq_iff_eq]
  apply List.ext_getElem?
  intro j
  rw [List.getElem?_take]
  split
  · rw [List.getElem?_drop]; exact h j ‹_›
  · rw [List.getElem?_eq_none (by omega)]
theorem eqAt_false (a : List UInt8) (p : Nat) (b : List UInt8) (j : Nat) (hj : j < b.length) (h : a[p + j]? ≠ b[j]?) : eqAt a p b = false := by
  simp only [eqAt, beq_eq_false_iff_ne]
  intro e
  apply h
  have hj2 := congrArg (fun l => l[j]?) e
  simp only [List.getElem?_take, if_pos hj, List.getElem?_drop] at hj2
  exact hj2

theorem drewN_ex (w : World) (a b : Nat) : ∃ m, (w.drewN a).drewN b = w.drewN m := ⟨a + b, by simp⟩

theorem eqAt_nil (w : World) (o : Option Addr) (n c : Nat) (p : Nat) (hp : p ≤ n) (hn : n ≤ 8388608) :
    Calls Try.prog 10 #[.slice o n c, .int .i64 (p : Int), .slice none 0 0] w fun e w' => e = .returned (.bool true) ∧ ∃ m, w' = w.drewN m := by
  have b1 : decide ((p : Int) < 0) = false := by simp
  have b2 : decide ((n : Int) < (p : Int)) = false := by simp; omega
  go_enter Try.func10, Try.ntmps10
  go_wp2
  refine wp_loop_rounds 1 ?_
  rw [rounds_succ]
  go_wp2
  go_ret
  exact ⟨rfl, 0, rfl⟩

set_option maxHeartbeats 1000000 in
theorem eqAt_some (w : World) (g h ca cb p : Nat) (a b : List UInt8) (hp : p + b.length ≤ a.length) (hn : a.length ≤ 8388608)
    (hca : ∀ j (hj : j < a.length), w.cell? ⟨g, j, none⟩ = some (.int .u8 ((a[j].toNat : Nat) : Int))) (hcb : ∀ j (hj : j < b.length), w.cell? ⟨h, j, none⟩ = some (.int .u8 ((b[j].toNat : Nat) : Int))) :
    Calls Try.prog 10 #[.slice (some ⟨g, 0, none⟩) a.length ca, .int .i64 (p : Int), .slice (some ⟨h, 0, none⟩) b.length cb] w fun e w' => e = .returned (.bool (eqAt a p b)) ∧ ∃ m, w' = w.drewN m := by
  have b1 : decide ((p : Int) < 0) = false := by simp
  have b2 : decide ((a.length : Int) < (p : Int)) = false := by simp; omega
  have b3 : decide ((a.length : Int) - (p : Int) < (b.length : Int)) = false := by simp; omega
  go_enter Try.func10, Try.ntmps10
  go_wp2
  go_loopw [7] (fun i wr => ∃ k : Nat, k ≤ b.length ∧ i = .int .i64 (k : Int) ∧ (∀ j, j < k → a[p + j]? = b[j]?) ∧ ∃ m, wr = w.drewN m)
    (fun i _ => b.length - (intOf i).toNat)
  case atStart => exact ⟨0, Nat.zero_le _, rfl, fun j hj => by omega, 0, rfl⟩
  case round =>
    obtain ⟨k, hk, rfl, hall, m, rfl⟩ := hrel
    by_cases hlt : k < b.length
    · have c1 := hca (p + k) (by omega)
      have c2 := hcb k hlt
      have Hall : Hid (∀ j, j < k → a[p + j]? = b[j]?) := hall
      clear hca hcb hall
      have hpk : p + k < a.length := by omega
      by_cases heq : a[p + k] = b[k]
      · have he : (((a[p + k].toNat : Nat) : Int) != ((b[k].toNat : Nat) : Int)) = false := by rw [heq]; simp
        have Heq : Hid (a[p + k]? = b[k]?) := by
          show a[p + k]? = b[k]?
          rw [List.getElem?_eq_getElem hpk, List.getElem?_eq_getElem hlt, heq]
        clear heq
        go_wp2
        go_quiet (fail)
        go_wp2
        go_roundw
        case rel =>
          refine ⟨k + 1, by omega, by go_num, ?_, _, rfl⟩
          intro j hj
          by_cases hjk : j < k
          · exact Hall.out j hjk
          · obtain rfl : j = k := by omega
            exact Heq.out
        case measure => simp [intOf]; omega
      · have he : (((a[p + k].toNat : Nat) : Int) != ((b[k].toNat : Nat) : Int)) = true := by
          rw [bne_iff_ne]
          intro e
          exact heq (UInt8.toNat_inj.1 (by omega))
        have Heq : Hid (eqAt a p b = false) := by
          refine eqAt_false a p b k hlt ?_
          rw [List.getElem?_eq_getElem hpk, List.getElem?_eq_getElem hlt]
          simpa using heq
        clear heq
        go_wp2
        go_quiet (fail)
        go_wp2
        go_ret
        exact ⟨by rw [Heq.out]; rfl, drewN_ex _ _ _⟩
    · obtain rfl : k = b.length := by omega
      have Heq : Hid (eqAt a p b = true) := eqAt_true a p b hall
      clear hall
      go_wp2
      go_ret
      exact ⟨by rw [Heq.out]; rfl, _, rfl⟩

/-- The cells of a row that is owned, one by one. -/
theorem own_cell {w : World} {base g n cap : Nat} {l : List UInt8} (h : w.ownsRow base 5 1 (.slice (some ⟨g, 0, none⟩) n cap) n (bc l)) (hn : l.length = n) :
    ∀ j (hj : j < l.length), w.cell? ⟨g, j, none⟩ = some (.int .u8 ((l[j].toNat : Nat) : Int)) := by
  intro j hj
  rw [h.cellAt j (by omega), bc_getElem? l j hj]

/-- 'zzBytesEqualAt' over rows that the call owns; the first is not empty. -/
theorem eqAt_own (w : World) (base p : Nat) (v u : Value) (a b : List UInt8) (hp : p + b.length ≤ a.length) (hn : a.length ≤ 8388608) (ha : 0 < a.length)
    (h1 : w.ownsRow base 5 1 v a.length (bc a)) (h2 : w.ownsRow base 5 1 u b.length (bc b)) :
    Calls Try.prog 10 #[v, .int .i64 (p : Int), u] w fun e w' => e = .returned (.bool (eqAt a p b)) ∧ ∃ m, w' = w.drewN m := by
  rcases h1.2 with ⟨rfl, hz⟩ | ⟨g, cap, cur, rfl, _⟩
  · omega
  · rcases h2.2 with ⟨rfl, hz⟩ | ⟨g', cap', cur', rfl, _⟩
    · have hb : b = [] := List.eq_nil_of_length_eq_zero hz
      subst hb
      refine (eqAt_nil w (some ⟨g, 0, none⟩) a.length cap p (by simpa using hp) hn).mono ?_
      rintro e w' ⟨rfl, hw⟩
      exact ⟨by simp [eqAt], hw⟩
    · exact eqAt_some w g g' cap cap' p a b hp hn (own_cell h1 rfl) (own_cell h2 rfl)
end Go.Proofs.Qxb6613949a
