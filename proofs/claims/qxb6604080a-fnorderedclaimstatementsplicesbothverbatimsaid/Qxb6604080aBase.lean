/-
  The contracts that the four laws share: claiming, ZZclaiming, the length bounds.
-/
import Derived.Test.Qxb6604080aRows
import Derived.Test.Qxb6604080aLits
import Derived.WalkKit
import Derived.ProofKit
import Derived.WalkSpells
namespace Go.Proofs.Qxb6604080a
open Go.ChangeShapes Go.WideShapes Go.ChangeAt Go.RowKit

set_option maxHeartbeats 400000 in
theorem claiming_any (s : ByteArray) (hs : s.size ≤ 1048576) (w : World) :
    Calls Try.prog 15 #[.string s] w fun e w' => e = .returned (.string (K0 ++ s ++ K1)) ∧ w' = w := by
  have h0 := K0_size
  have h1 := K1_size
  go_enter Try.func15, Try.ntmps15
  rw [← K0.eq_1, ← K1.eq_1]
  go_wp2
  go_ret
  exact ⟨rfl, rfl⟩

set_option maxHeartbeats 400000 in
theorem zzclaiming_any (s : ByteArray) (hs : s.size ≤ 1048576) (w : World) :
    Calls Try.prog 8 #[.string s] w fun e w' => e = .returned (.string (K0 ++ s ++ K1)) ∧ w' = w := by
  go_enter Try.func8, Try.ntmps8
  go_wp2_with (go_at_call 15; refine (claiming_any _ hs _).mono ?_; rintro e w' ⟨rfl, rfl⟩)
  go_ret
  exact ⟨rfl, rfl⟩

/- The two-string length bounds (functions 10, 11, 13). -/
set_option maxHeartbeats 400000 in
theorem bytes10_yes (a b : ByteArray) (h : a.size + b.size ≤ 1048576) (w : World) :
    Calls Try.prog 10 #[.string a, .string b] w fun e w' => e = .returned (.bool true) ∧ w' = w := by
  go_enter Try.func10, Try.ntmps10
  go_wp2
  go_ret
  exact ⟨rfl, rfl⟩

set_option maxHeartbeats 400000 in
theorem bytes10_no (a b : ByteArray) (h : ¬ a.size + b.size ≤ 1048576) (w : World) :
    Calls Try.prog 10 #[.string a, .string b] w fun e w' => e = .returned (.bool false) ∧ w' = w := by
  by_cases ha : 1048576 < a.size
  · go_enter Try.func10, Try.ntmps10
    go_wp2
    go_ret
    exact ⟨rfl, rfl⟩
  · by_cases hb : 1048576 < b.size
    · go_enter Try.func10, Try.ntmps10
      go_wp2
      go_ret
      exact ⟨rfl, rfl⟩
    · go_enter Try.func10, Try.ntmps10
      go_wp2
      go_ret
      exact ⟨rfl, rfl⟩
end Go.Proofs.Qxb6604080a
