import Derived.Test.Qxb6604080aBase
import Derived.Test.Qxb6604080aDiff
namespace Go.Proofs.Qxb6604080a
open Go.ChangeShapes Go.WideShapes Go.ChangeAt Go.RowKit

set_option maxHeartbeats 400000 in
theorem bytes7_yes (a : ByteArray) (h : a.size ≤ 1048576) (w : World) :
    Calls Try.prog 7 #[.string a] w fun e w' => e = .returned (.bool true) ∧ w' = w := by
  go_enter Try.func7, Try.ntmps7
  go_wp2
  go_ret
  exact ⟨rfl, rfl⟩

set_option maxHeartbeats 400000 in
theorem bytes7_no (a : ByteArray) (h : ¬ a.size ≤ 1048576) (w : World) :
    Calls Try.prog 7 #[.string a] w fun e w' => e = .returned (.bool false) ∧ w' = w := by
  go_enter Try.func7, Try.ntmps7
  go_wp2
  go_ret
  exact ⟨rfl, rfl⟩

theorem grown_draws {w w1 : World} (h : ∃ n, w1 = w.drewN n) (m : Nat) : Grown w (w1.drewN m) := by
  obtain ⟨n, rfl⟩ := h
  rw [World.drewN_drewN]
  induction n + m with
  | zero => exact Grown.refl _
  | succ k ih => exact ih.drew

/-- The template with nothing spliced in, and with one zero byte. -/
def T0 : ByteArray := K0 ++ K1
def T1 : ByteArray := K0 ++ ⟨#[0]⟩ ++ K1
theorem T0_size : T0.size = 330 := by
  have h0 := K0_size
  have h1 := K1_size
  unfold T0; rw [ByteArray.size_append]; omega
theorem T1_size : T1.size = 331 := by
  have h0 := K0_size
  have h1 := K1_size
  have h2 : (⟨#[0]⟩ : ByteArray).size = 1 := rfl
  unfold T1; rw [ByteArray.size_append, ByteArray.size_append]; omega
theorem K1_head : K1.data.toList.head? = some 32 := by kernel_rfl

theorem zz_empty (w : World) : Calls Try.prog 8 #[.string ⟨#[]⟩] w fun e w' => e = .returned (.string T0) ∧ w' = w := by
  refine (zzclaiming_any ⟨#[]⟩ (by decide) w).mono ?_
  rintro e w' ⟨rfl, rfl⟩
  refine ⟨?_, rfl⟩
  have : K0 ++ (⟨#[]⟩ : ByteArray) ++ K1 = T0 := by
    apply ByteArray.ext; simp [T0]
  rw [this]
theorem zz_nul (w : World) : Calls Try.prog 8 #[.string ⟨#[0]⟩] w fun e w' => e = .returned (.string T1) ∧ w' = w := by
  refine (zzclaiming_any ⟨#[0]⟩ (by decide) w).mono ?_
  rintro e w' ⟨rfl, rfl⟩
  exact ⟨rfl, rfl⟩
theorem fd_T : fd T0.data.toList T1.data.toList = 161 := by
  have h0 : K0.data.toList.length = 161 := K0_size
  unfold T0 T1
  simp only [ByteArray.data_append, Array.toList_append, List.append_assoc]
  rw [fd_append, h0]
  simp only [List.cons_append]
  rw [fd_head]
  rw [K1_head]
  intro y hy; cases hy; decide
theorem diff_T (w : World) : Calls Try.prog 9 #[.string T0, .string T1] w fun e w' => e = .returned (.int .i64 161) ∧ ∃ n, w' = w.drewN n := by
  have h0 := T0_size
  have h1 := T1_size
  refine (diff_any T0 T1 (by omega) (by omega) w).mono ?_
  rw [fd_T]
  exact fun e w' h => h
theorem T0_left : T0.extract 0 161 = K0 := by
  have h0 : K0.data.size = 161 := K0_size
  apply ByteArray.ext
  simp [T0, h0]
theorem T0_right : T0.extract 161 330 = K1 := by
  have h0 : K0.data.size = 161 := K0_size
  have h1 : K1.data.size = 169 := K1_size
  apply ByteArray.ext
  have e0 : K0.data.extract 161 161 = #[] := by rw [Array.extract_eq_empty_iff]; omega
  have e1 : K1.data.extract 0 169 = K1.data := by rw [← h1]; simp
  simp [T0, h0, e0, e1]

set_option maxRecDepth 10000 in
set_option maxHeartbeats 400000 in
theorem splice_walk (a0 : ByteArray) (hn : a0.size ≤ 1048576) (w : World) :
    Calls Try.prog 3 #[.string a0] w fun e w' => e = .returned (.bool true) ∧ Grown w w' := by
  have h0 := K0_size
  have h1 := K1_size
  have ht := T0_size
  go_enter Try.func3, Try.ntmps3
  go_wp2_with fail
  refine (bytes7_yes _ hn _).mono ?_
  rintro e w' ⟨rfl, rfl⟩
  go_wp2_with fail
  refine (zz_empty _).mono ?_
  rintro e w' ⟨rfl, rfl⟩
  go_wp2_with fail
  refine (zz_nul _).mono ?_
  rintro e w' ⟨rfl, rfl⟩
  go_wp2_with fail
  refine (diff_T _).mono ?_
  rintro e w1 ⟨rfl, hw1⟩
  have HW : Hid (∃ n, w1 = w'.drewN n) := hw1
  clear hw1
  go_wp2_with fail
  go_quiet ((go_at_call 8; exact Calls.quiet_of_same (zzclaiming_any _ hn _)))
  rw [T0_left, T0_right]
  go_wp2
  go_ret
  exact ⟨by simp, grown_draws HW.out _⟩
end Go.Proofs.Qxb6604080a
