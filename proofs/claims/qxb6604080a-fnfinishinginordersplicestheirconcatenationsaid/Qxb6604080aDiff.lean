/-
  The contract of zzFirstDiff.
-/
import Derived.Test.Qxb6604080aRows
import Derived.Test.Qxb6604080aPlain
import Derived.WalkKit
import Derived.ProofKit
import Derived.WalkSpells
import Derived.BigQuiet
import Derived.Deep.QuietTactic
namespace Go.Proofs.Qxb6604080a
open Go.ChangeShapes Go.WideShapes Go.ChangeAt Go.RowKit

theorem ret_nat {a b : Nat} (h : a = b) : Ending.returned (.int .i64 (a : Int)) = .returned (.int .i64 (b : Int)) := by rw [h]

theorem at_some (a : ByteArray) (k : Nat) (h : k < a.size) : a.data.toList[k]? = some a[k] := by
  rw [List.getElem?_eq_getElem (show k < a.data.toList.length from h)]; rfl
theorem at_eq (a b : ByteArray) (k : Nat) (ha : k < a.size) (hb : k < b.size) (h : a[k] = b[k]) : a.data.toList[k]? = b.data.toList[k]? := by
  rw [at_some a k ha, at_some b k hb, h]
theorem at_ne (a b : ByteArray) (k : Nat) (ha : k < a.size) (hb : k < b.size) (h : ¬ a[k] = b[k]) : a.data.toList[k]? ≠ b.data.toList[k]? := by
  rw [at_some a k ha, at_some b k hb]; simpa using h
theorem ne_true {x y : UInt8} (h : ¬ x = y) : ((x.toNat : Int) != (y.toNat : Int)) = true := by
  rw [bne_iff_ne]
  intro e
  exact h (UInt8.toNat_inj.mp (by omega))

set_option maxHeartbeats 400000 in
theorem diff_any (a b : ByteArray) (ha : a.size ≤ 2097152) (_hb : b.size ≤ 2097152) (w : World) :
    Calls Try.prog 9 #[.string a, .string b] w fun e w' => e = .returned (.int .i64 ((fd a.data.toList b.data.toList : Nat) : Int)) ∧ ∃ n, w' = w.drewN n := by
  go_enter Try.func9, Try.ntmps9
  go_wp2
  go_loopw [5] (fun i wr => ∃ k : Nat, k ≤ a.size ∧ k ≤ b.size ∧ i = .int .i64 k ∧ Hid (a.data.toList.take k = b.data.toList.take k) ∧ ∃ n, wr = w.drewN n) (fun i _ => a.size - (intOf i).toNat)
  case atStart => exact ⟨0, Nat.zero_le _, Nat.zero_le _, rfl, rfl, 0, rfl⟩
  case round =>
    obtain ⟨k, hka, hkb, rfl, he, n, rfl⟩ := hrel
    by_cases hla : k < a.size
    · by_cases hlb : k < b.size
      · have hai : (k : Int) < (a.size : Int) := by omega
        have hbi : (k : Int) < (b.size : Int) := by omega
        by_cases hq : a[k] = b[k]
        · have hne : ((a[k].toNat : Int) != (b[k].toNat : Int)) = false := by rw [hq]; simp
          have HQ : Hid (a[k] = b[k]) := hq
          clear hq
          go_wp2_with fail
          go_quiet (fail)
          go_wp2
          go_roundw
          case rel => exact ⟨k + 1, by omega, by omega, by go_num, take_step _ _ _ he.out (at_eq a b k hla hlb HQ.out), _, rfl⟩
          case measure => simp [intOf]; omega
        · have hne : ((a[k].toNat : Int) != (b[k].toNat : Int)) = true := ne_true hq
          have HQ : Hid (¬ a[k] = b[k]) := hq
          clear hq
          go_wp2_with fail
          go_quiet (fail)
          go_wp2
          go_ret
          exact ⟨ret_nat (fd_stop k _ _ he.out hka hkb (.inr (.inr (at_ne a b k hla hlb HQ.out)))).symm, _, World.drewN_drewN _ _ _⟩
      · go_wp2
        go_ret
        exact ⟨ret_nat (fd_stop k _ _ he.out hka hkb (.inr (.inl (show k = b.size by omega)))).symm, _, rfl⟩
    · go_wp2
      go_ret
      exact ⟨ret_nat (fd_stop k _ _ he.out hka hkb (.inl (show k = a.size by omega))).symm, _, rfl⟩
end Go.Proofs.Qxb6604080a
