/-
  THE WALKS OF THE TWO 'zzBytes..' AND OF 'b1AddBytes'.
-/
import Derived.Test.Qxb6613348aRows
import Derived.Test.Qxb6613348aOwn
import Derived.WalkKit
import Derived.ProofKit
namespace Go.Proofs.Qxb6613348a
open Go.ChangeShapes Go.WideShapes Go.ChangeAt Go.RowKit Own

/-- The sum of the lengths. -/
def tot : List (List UInt8) → Nat
  | [] => 0
  | s :: r => s.length + tot r
theorem tot_append (a b : List (List UInt8)) : tot (a ++ b) = tot a + tot b := by
  induction a with
  | nil => simp [tot]
  | cons s r ih => simp only [List.cons_append, tot, ih]; omega
theorem tot_take_succ (ss : List (List UInt8)) (k : Nat) (h : k < ss.length) : tot (ss.take (k + 1)) = tot (ss.take k) + ss[k].length := by
  rw [List.take_succ_eq_append_getElem h, tot_append]; simp [tot]
theorem tot_take_le (ss : List (List UInt8)) (k : Nat) : tot (ss.take k) ≤ tot ss := by
  have h : tot ss = tot (ss.take k) + tot (ss.drop k) := by rw [← tot_append, List.take_append_drop]
  omega
theorem tot_perm {a b : List (List UInt8)} (h : a.Perm b) : tot a = tot b := by
  induction h with
  | nil => rfl
  | cons x _ ih => simp only [tot, ih]
  | swap x y l => simp only [tot]; omega
  | trans _ _ h1 h2 => exact h1.trans h2
theorem tot_mem {ss : List (List UInt8)} {s : List UInt8} (h : s ∈ ss) : s.length ≤ tot ss := by
  induction ss with
  | nil => cases h
  | cons a r ih =>
    rcases List.mem_cons.1 h with rfl | h
    · simp only [tot]; omega
    · have := ih h; simp only [tot]; omega

theorem ret_bool {a b : Bool} (h : a = b) : Ending.returned (.bool a) = .returned (.bool b) := by rw [h]

set_option maxHeartbeats 1000000 in
theorem zzBytes5 (w : World) (o : Option Addr) (c : Nat) (ss : List (List UInt8)) (hm : ss.length ≤ maxLen) (hs : ∀ s ∈ ss, s.length ≤ maxLen) (hr : Reads w o ss) :
    Calls Try.prog 5 #[.slice o ss.length c] w fun e w' => e = .returned (.bool (decide (ss.length + tot ss ≤ 1048576))) ∧ w' = w := by
  unfold maxLen at hm hs
  by_cases h1 : ss.length ≤ 1048576
  · go_enter Try.func5, Try.ntmps5
    go_wp2
    go_loop [3, 4] (fun z i => ∃ k : Nat, k ≤ ss.length ∧ i = .int .i64 (k : Int) ∧ z = .int .i64 ((ss.length + tot (ss.take k) : Nat) : Int) ∧ ss.length + tot (ss.take k) ≤ 1048576)
      (fun _ i => ss.length - (intOf i).toNat)
    case atStart => exact ⟨0, Nat.zero_le _, rfl, by simp [tot], by simp [tot]; omega⟩
    case round =>
      obtain ⟨k, hk, rfl, rfl, hb⟩ := hrel
      by_cases hlt : k < ss.length
      · obtain ⟨x, rfl, hc⟩ := hr k ss[k] (List.getElem?_eq_getElem hlt)
        have hsk := hs ss[k] (List.getElem_mem hlt)
        have ht := tot_take_succ ss k hlt
        have hle := tot_take_le ss (k + 1)
        have Ht : Hid (tot (ss.take (k + 1)) = tot (ss.take k) + ss[k].length ∧ tot (ss.take (k + 1)) ≤ tot ss) := ⟨ht, hle⟩
        clear ht hle
        generalize tot (ss.take k) = t at *
        by_cases h2 : ss[k].length ≤ 1048576
        · by_cases h3 : ss.length + t + ss[k].length ≤ 1048576
          · go_wp2
            go_round
            case rel => exact ⟨k + 1, by omega, by go_num, by rw [Ht.out.1]; go_num, by rw [Ht.out.1]; omega⟩
            case measure => simp [intOf]; omega
          · have hf : Hid (decide (ss.length + tot ss ≤ 1048576) = false) := by
              have := Ht.out
              show _ = _
              simp; omega
            go_wp2
            go_ret
            exact ⟨ret_bool (by rw [hf.out]), rfl⟩
        · have hf : Hid (decide (ss.length + tot ss ≤ 1048576) = false) := by
            have := Ht.out
            show _ = _
            simp; omega
          go_wp2
          go_ret
          exact ⟨ret_bool (by rw [hf.out]), rfl⟩
      · obtain rfl : k = ss.length := by omega
        rw [List.take_length] at hb
        have hf : Hid (decide (ss.length + tot ss ≤ 1048576) = true) := by
          show _ = _
          simp; omega
        clear hb hr
        go_wp2
        go_ret
        exact ⟨ret_bool (by rw [hf.out]), rfl⟩
  · have hf : Hid (decide (ss.length + tot ss ≤ 1048576) = false) := by
      show _ = _
      simp; omega
    go_enter Try.func5, Try.ntmps5
    go_wp2
    go_ret
    exact ⟨ret_bool (by rw [hf.out]), rfl⟩

set_option maxHeartbeats 1000000 in
theorem zzBytes10 (w : World) (o : Option Addr) (c : Nat) (ss : List (List UInt8)) (hm : ss.length ≤ maxLen) (hs : ∀ s ∈ ss, s.length ≤ maxLen) (hr : Reads w o ss) :
    Calls Try.prog 10 #[.slice o ss.length c] w fun e w' => e = .returned (.bool (decide (ss.length + tot ss ≤ 1048576))) ∧ w' = w := by
  unfold maxLen at hm hs
  by_cases h1 : ss.length ≤ 1048576
  · go_enter Try.func10, Try.ntmps10
    go_wp2
    go_loop [3, 4] (fun z i => ∃ k : Nat, k ≤ ss.length ∧ i = .int .i64 (k : Int) ∧ z = .int .i64 ((ss.length + tot (ss.take k) : Nat) : Int) ∧ ss.length + tot (ss.take k) ≤ 1048576)
      (fun _ i => ss.length - (intOf i).toNat)
    case atStart => exact ⟨0, Nat.zero_le _, rfl, by simp [tot], by simp [tot]; omega⟩
    case round =>
      obtain ⟨k, hk, rfl, rfl, hb⟩ := hrel
      by_cases hlt : k < ss.length
      · obtain ⟨x, rfl, hc⟩ := hr k ss[k] (List.getElem?_eq_getElem hlt)
        have hsk := hs ss[k] (List.getElem_mem hlt)
        have ht := tot_take_succ ss k hlt
        have hle := tot_take_le ss (k + 1)
        have Ht : Hid (tot (ss.take (k + 1)) = tot (ss.take k) + ss[k].length ∧ tot (ss.take (k + 1)) ≤ tot ss) := ⟨ht, hle⟩
        clear ht hle
        generalize tot (ss.take k) = t at *
        by_cases h2 : ss[k].length ≤ 1048576
        · by_cases h3 : ss.length + t + ss[k].length ≤ 1048576
          · go_wp2
            go_round
            case rel => exact ⟨k + 1, by omega, by go_num, by rw [Ht.out.1]; go_num, by rw [Ht.out.1]; omega⟩
            case measure => simp [intOf]; omega
          · have hf : Hid (decide (ss.length + tot ss ≤ 1048576) = false) := by
              have := Ht.out
              show _ = _
              simp; omega
            go_wp2
            go_ret
            exact ⟨ret_bool (by rw [hf.out]), rfl⟩
        · have hf : Hid (decide (ss.length + tot ss ≤ 1048576) = false) := by
            have := Ht.out
            show _ = _
            simp; omega
          go_wp2
          go_ret
          exact ⟨ret_bool (by rw [hf.out]), rfl⟩
      · obtain rfl : k = ss.length := by omega
        rw [List.take_length] at hb
        have hf : Hid (decide (ss.length + tot ss ≤ 1048576) = true) := by
          show _ = _
          simp; omega
        clear hb hr
        go_wp2
        go_ret
        exact ⟨ret_bool (by rw [hf.out]), rfl⟩
  · have hf : Hid (decide (ss.length + tot ss ≤ 1048576) = false) := by
      show _ = _
      simp; omega
    go_enter Try.func10, Try.ntmps10
    go_wp2
    go_ret
    exact ⟨ret_bool (by rw [hf.out]), rfl⟩

set_option maxHeartbeats 1000000 in
/-- 'b1AddBytes(0, names)': some number; nothing turns. -/
theorem addBytes (w : World) (o : Option Addr) (c : Nat) (ss : List (List UInt8)) (hn : ss.length ≤ 4096) (hb : ss.length + tot ss ≤ 1048576) (hr : Reads w o ss) :
    Calls Try.prog 6 #[.int .i64 0, .slice o ss.length c] w fun e w' => (∃ t : Int, e = .returned (.int .i64 t)) ∧ w' = w := by
  have b2 : decide (4096 < (ss.length : Int)) = false := by simp; omega
  go_enter Try.func6, Try.ntmps6
  go_wp2
  go_loop [0, 5] (fun z i => ∃ k : Nat, k ≤ ss.length ∧ i = .int .i64 (k : Int) ∧ z = .int .i64 ((16 * ss.length + tot (ss.take k) : Nat) : Int))
    (fun _ i => ss.length - (intOf i).toNat)
  case atStart => exact ⟨0, Nat.zero_le _, rfl, by simp [tot]⟩
  case round =>
    obtain ⟨k, hk, rfl, rfl⟩ := hrel
    by_cases hlt : k < ss.length
    · obtain ⟨x, rfl, hc⟩ := hr k ss[k] (List.getElem?_eq_getElem hlt)
      have ht := tot_take_succ ss k hlt
      have hle := tot_take_le ss (k + 1)
      have hle0 := tot_take_le ss k
      have Ht : Hid (tot (ss.take (k + 1)) = tot (ss.take k) + ss[k].length) := ht
      have h2 : ss[k].length ≤ 1048576 := by omega
      have b3 : decide (1048576 < (ss[k].length : Int)) = false := by simp; omega
      clear ht hle
      generalize tot (ss.take k) = t at *
      by_cases h3 : 16 * ss.length + t ≤ 1048576
      · have b4 : decide (1048576 < 16 * (ss.length : Int) + (t : Int)) = false := by simp; omega
        go_wp2
        go_round
        case rel => exact ⟨k + 1, by omega, by go_num, by rw [Ht.out]; go_num⟩
        case measure => simp [intOf]; omega
      · have b4 : decide (1048576 < 16 * (ss.length : Int) + (t : Int)) = true := by simp; omega
        go_wp2
        go_ret
        exact ⟨⟨_, rfl⟩, rfl⟩
    · go_wp2
      go_ret
      exact ⟨⟨_, rfl⟩, rfl⟩
end Go.Proofs.Qxb6613348a
