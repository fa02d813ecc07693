/-
  THE WALK OF 'zzReadNameEntry'.
-/
import Derived.Test.Qxb6613949aRead
import Derived.Lib.SlBytesRow
namespace Go.Proofs.Qxb6613949a
open Go.ChangeShapes Go.WideShapes Go.ChangeAt Go.RowKit Own

set_option maxHeartbeats 1000000 in
set_option maxRecDepth 100000 in
theorem readEntry (w : World) (base g cap p : Nat) (s : ByteArray) (l rest : List UInt8) (hs : s.size ≤ 1048576) (hn : l.length ≤ 8388608) (hl : l.drop p = entry s ++ rest)
    (ho : w.ownsRow base 5 1 (.slice (some ⟨g, 0, none⟩) l.length cap) l.length (bc l)) :
    Calls Try.prog 11 #[.slice (some ⟨g, 0, none⟩) l.length cap, .int .i64 (p : Int)] w fun e w' =>
      e = .returned (.tuple #[.string s, .int .i64 ((p + (entry s).length : Nat) : Int), .bool true]) ∧ ∃ m, w' = w.drewN m := by
  have hlen : l.length - p = (entry s).length + rest.length := by
    have := congrArg List.length hl; simpa using this
  have hent : (entry s).length = 1 + (varint s.size).length + s.size := by
    simp only [entry, List.length_cons, List.length_append]
    have : s.data.toList.length = s.size := rfl
    omega
  have hl1 : l.drop (p + 1) = varint s.size ++ (s.data.toList ++ rest) := by
    rw [← List.drop_drop, hl]
    simp [entry]
  have c0 : w.cell? ⟨g, p, none⟩ = some (.int .u8 10) := by
    rw [ho.cellAt p (by omega)]
    have e1 : (bc l)[p]? = (bc (l.drop p))[0]? := by simp [bc, List.getElem?_drop]
    rw [e1, hl]
    rfl
  have hpl : p < l.length := by omega
  have hk : (varint s.size).length ≤ 3 := by rw [varint_length]; split <;> (try split) <;> omega
  have hv := varintLen s.size (by omega)
  have hr := readVarint w base g cap (p + 1) s.size l _ (by omega) hn hl1 ho
  obtain ⟨k, hk0⟩ : ∃ k, k = (varint s.size).length := ⟨_, rfl⟩
  rw [← hk0] at hent hk hr
  simp only [← hk0] at hv
  have b1 : decide ((p : Int) < 0) = false := by simp
  have b2 : decide ((l.length : Int) ≤ (p : Int)) = false := by simp; omega
  have Hv : Hid (∀ w, Calls Try.prog 15 #[.int .u64 (s.size : Int)] w fun e w' => e = .returned (.int .i64 (k : Int)) ∧ w' = w) := hv
  have Hr : Hid (Calls Try.prog 14 #[.slice (some ⟨g, 0, none⟩) l.length cap, .int .i64 ((p + 1 : Nat) : Int)] w fun e w' =>
      e = .returned (.tuple #[.int .u64 (s.size : Int), .int .i64 ((p + 1 + k : Nat) : Int), .bool true]) ∧ w' = w) := hr
  have He : Hid ((entry s).length = 1 + k + s.size) := hent
  have hpe : p + 1 + k + s.size ≤ l.length := by omega
  have hcap : l.length ≤ cap := by
    rcases ho.2 with ⟨h, _⟩ | ⟨g', cap', cur, h, _, _, h', _⟩
    · cases h
    · cases h; exact h'
  have hby : Go.Lib.Bytes w g (p + 1 + k) s := by
    intro j hj
    rw [ho.cellAt (p + 1 + k + j) (by omega)]
    have e1 : (bc l)[p + 1 + k + j]? = (bc ((l.drop (p + 1)).drop k))[j]? := by simp [bc, List.getElem?_drop]
    rw [e1, hl1, hk0, List.drop_left, bc_append, List.getElem?_append_left (by rw [bc_length]; exact hj), bc_getElem? _ j hj]
    rfl
  have hconv : ∀ c, (convert 24 9 (.slice (some ⟨g, p + 1 + k, none⟩) s.size c)).run Try.prog w = .ok (.string s) w := fun c =>
    Go.Lib.run_convert_whole w 24 5 9 Try.underlying24 Try.underlying5 Try.underlying9 g (p + 1 + k) s hby c
  have hconv0 : s.size = 0 → ∀ c, (convert 24 9 (.slice (some ⟨g, 0, none⟩) s.size c)).run Try.prog w = .ok (.string s) w := fun h0 c =>
    Go.Lib.run_convert_whole w 24 5 9 Try.underlying24 Try.underlying5 Try.underlying9 g 0 s (fun j hj => by omega) c
  have hend : Hid (p + (entry s).length = p + 1 + k + s.size) := by show _ = _; omega
  clear hv hr hent hl hl1 hlen hk0 hby ho He
  obtain ⟨q, hq⟩ : ∃ q, q = p + 1 + k := ⟨_, rfl⟩
  rw [← hq] at hconv Hr hpe hend
  have d1 : ((q : Int) - ((p : Int) + 1) != (k : Int)) = false := by
    rw [bne_eq_false_iff_eq]; omega
  have d2 : decide ((l.length : Int) - (q : Int) < (s.size : Int)) = false := by simp; omega
  have hqp : p + 1 ≤ q := by omega
  have hcq : cap = q → s.size = 0 := by omega
  clear hq hk
  go_enter Try.func11, Try.ntmps11
  go_wp2_with fail
  rw [show (p : Int) + 1 = ((p + 1 : Nat) : Int) by omega]
  refine Hr.out.mono ?_
  rintro e w' ⟨rfl, rfl⟩
  clear Hr
  go_wp2_with fail
  refine (Hv.out _).mono ?_
  rintro e w' ⟨rfl, rfl⟩
  clear Hv
  by_cases hc : cap = q
  · have hz := hcq hc
    have hc0 := hconv0 hz
    rw [hz] at hc0
    have Hz : Hid (s.size = 0) := hz
    clear hconv0 hconv hcq
    go_wp2_with fail
    go_ret3
    refine ⟨?_, 0, rfl⟩
    rw [hend.out, Hz.out]
    rfl
  · clear hconv0 hcq
    go_wp2_with fail
    go_ret3
    refine ⟨?_, 0, rfl⟩
    rw [hend.out]
    simp
end Go.Proofs.Qxb6613949a
