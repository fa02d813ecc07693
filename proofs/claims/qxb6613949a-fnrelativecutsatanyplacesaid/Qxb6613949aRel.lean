/-
  THE WALKS OF strings.TrimPrefix (the shelf's own contract, at this program's number) AND OF 'relative'.
-/
import Derived.Test.Qxb6613949aRows
import Derived.WalkKit
import Derived.ProofKit
import Derived.Lib.Strings
import Derived.Lib.Slices
import Derived.Lib.Walk
namespace Go.Proofs.Qxb6613949a
open Go.ChangeShapes Go.WideShapes Go.ChangeAt Go.RowKit

set_option maxHeartbeats 1000000 in
theorem trim16 (s p : ByteArray) (w : World) :
    Calls Try.prog 16 #[.string s, .string p] w fun e w' => e = .returned (.string ⟨(Lib.trimPrefix s.data.toList p.data.toList).toArray⟩) ∧ w' = w := by
  go_enter Try.func16, Try.ntmps16
  go_wp2
  · have h1 : p.size ≤ s.size := by assumption
    have h2 : ((s.extract 0 p.size).toList == p.toList) = true := by assumption
    go_ret
    refine ⟨?_, rfl⟩
    rw [Lib.trimPrefix_hit s p h1 h2]
    rfl
  · have h2 : ((s.extract 0 p.size).toList == p.toList) = false := by assumption
    go_ret
    refine ⟨?_, rfl⟩
    rw [Lib.trimPrefix_miss s p (by rw [h2]; simp)]
    rfl
  · have h1 : ¬ p.size ≤ s.size := by assumption
    go_ret
    refine ⟨?_, rfl⟩
    rw [Lib.trimPrefix_miss s p (by simp [h1])]
    rfl

/-- What 'relative' computes: one leading slash is taken off. -/
def rel (s : ByteArray) : ByteArray := ⟨(Lib.trimPrefix s.data.toList [47]).toArray⟩

theorem rel12 (s : ByteArray) (w : World) :
    Calls Try.prog 12 #[.string s] w fun e w' => e = .returned (.string (rel s)) ∧ w' = w := by
  go_enter Try.func12, Try.ntmps12
  go_wp2_with fail
  refine (trim16 _ _ _).mono ?_
  rintro e w' ⟨rfl, rfl⟩
  go_wp2_with fail
  go_ret
  exact ⟨rfl, rfl⟩

theorem rel6 (s : ByteArray) (w : World) :
    Calls Try.prog 6 #[.string s] w fun e w' => e = .returned (.string (rel s)) ∧ w' = w := by
  go_enter Try.func6, Try.ntmps6
  go_wp2_with fail
  refine (rel12 _ _).mono ?_
  rintro e w' ⟨rfl, rfl⟩
  go_wp2_with fail
  go_ret
  exact ⟨rfl, rfl⟩

theorem bytes5_yes (s : ByteArray) (i : Int) (h : s.size ≤ 1048576) (w : World) :
    Calls Try.prog 5 #[.string s, .int .i64 i] w fun e w' => e = .returned (.bool true) ∧ w' = w := by
  go_enter Try.func5, Try.ntmps5
  go_wp2
  go_ret
  exact ⟨rfl, rfl⟩
theorem bytes5_no (s : ByteArray) (i : Int) (h : ¬ s.size ≤ 1048576) (w : World) :
    Calls Try.prog 5 #[.string s, .int .i64 i] w fun e w' => e = .returned (.bool false) ∧ w' = w := by
  go_enter Try.func5, Try.ntmps5
  go_wp2
  go_ret
  exact ⟨rfl, rfl⟩
end Go.Proofs.Qxb6613949a
