/-
  The contracts of finishingInOrder and ZZfinishingInOrder, and the law's walk.
-/
import Derived.Test.Qxb6604080aSplice
namespace Go.Proofs.Qxb6604080a
open Go.ChangeShapes Go.WideShapes Go.ChangeAt Go.RowKit

/-- What stands behind the two spliced texts. -/
def QF : ByteArray := K3 ++ K4 ++ K5 ++ K6 ++ K7 ++ K6 ++ K8 ++ K9 ++ K10 ++ K11 ++ K12
theorem QF_size : QF.size = 950 := by
  have s3 := K3_size
  have s4 := K4_size
  have s5 := K5_size
  have s6 := K6_size
  have s7 := K7_size
  have s8 := K8_size
  have s9 := K9_size
  have s10 := K10_size
  have s11 := K11_size
  have s12 := K12_size
  unfold QF
  simp only [ByteArray.size_append]
  omega
theorem QF_head : QF.data.toList.head? = some 10 := by kernel_rfl

set_option maxRecDepth 10000 in
set_option maxHeartbeats 1000000 in
theorem fin16 (a b : ByteArray) (h : a.size + b.size ≤ 1048576) (w : World) :
    Calls Try.prog 16 #[.string a, .string b] w fun e w' => e = .returned (.string (K2 ++ a ++ b ++ QF)) ∧ w' = w := by
  have s2 := K2_size
  have s3 := K3_size
  have s4 := K4_size
  have s5 := K5_size
  have s6 := K6_size
  have s7 := K7_size
  have s8 := K8_size
  have s9 := K9_size
  have s10 := K10_size
  have s11 := K11_size
  have s12 := K12_size
  go_enter Try.func16, Try.ntmps16
  rw [← K2.eq_1, ← K3.eq_1, ← K4.eq_1, ← K5.eq_1, ← K6.eq_1, ← K7.eq_1, ← K8.eq_1, ← K9.eq_1, ← K10.eq_1, ← K11.eq_1, ← K12.eq_1]
  go_wp2
  go_ret
  refine ⟨?_, rfl⟩
  show Ending.returned (.string (K2 ++ a ++ b ++ K3 ++ K4 ++ K5 ++ K6 ++ K7 ++ K6 ++ K8 ++ K9 ++ K10 ++ K11 ++ K12)) = _
  simp only [QF, ByteArray.append_assoc]

set_option maxHeartbeats 400000 in
theorem fin12 (a b : ByteArray) (h : a.size + b.size ≤ 1048576) (w : World) :
    Calls Try.prog 12 #[.string a, .string b] w fun e w' => e = .returned (.string (K2 ++ a ++ b ++ QF)) ∧ w' = w := by
  go_enter Try.func12, Try.ntmps12
  go_wp2_with (go_at_call 16; refine (fin16 _ _ h _).mono ?_; rintro e w' ⟨rfl, rfl⟩)
  go_ret
  exact ⟨rfl, rfl⟩

set_option maxHeartbeats 400000 in
theorem bytes11_yes (a b : ByteArray) (h : a.size + b.size ≤ 1048576) (w : World) :
    Calls Try.prog 11 #[.string a, .string b] w fun e w' => e = .returned (.bool true) ∧ w' = w := by
  go_enter Try.func11, Try.ntmps11
  go_wp2
  go_ret
  exact ⟨rfl, rfl⟩

set_option maxHeartbeats 400000 in
theorem bytes11_no (a b : ByteArray) (h : ¬ a.size + b.size ≤ 1048576) (w : World) :
    Calls Try.prog 11 #[.string a, .string b] w fun e w' => e = .returned (.bool false) ∧ w' = w := by
  by_cases ha : 1048576 < a.size
  · go_enter Try.func11, Try.ntmps11
    go_wp2
    go_ret
    exact ⟨rfl, rfl⟩
  · by_cases hb : 1048576 < b.size
    · go_enter Try.func11, Try.ntmps11
      go_wp2
      go_ret
      exact ⟨rfl, rfl⟩
    · go_enter Try.func11, Try.ntmps11
      go_wp2
      go_ret
      exact ⟨rfl, rfl⟩

theorem draws_trans {w w1 w2 : World} (h : ∃ n, w1 = w.drewN n) (g : ∃ n, w2 = w1.drewN n) : ∃ n, w2 = w.drewN n := by
  obtain ⟨n, rfl⟩ := h
  obtain ⟨m, rfl⟩ := g
  exact ⟨_, World.drewN_drewN _ _ _⟩

/-- The template with nothing spliced in, and with one zero byte. -/
def F0 : ByteArray := K2 ++ QF
def F1 : ByteArray := K2 ++ ⟨#[0]⟩ ++ QF
theorem F0_size : F0.size = 970 := by
  have h0 := K2_size
  have h1 := QF_size
  unfold F0; rw [ByteArray.size_append]; omega
theorem F1_size : F1.size = 971 := by
  have h0 := K2_size
  have h1 := QF_size
  have h2 : (⟨#[0]⟩ : ByteArray).size = 1 := rfl
  unfold F1; rw [ByteArray.size_append, ByteArray.size_append]; omega
theorem fin_empty (w : World) : Calls Try.prog 12 #[.string ⟨#[]⟩, .string ⟨#[]⟩] w fun e w' => e = .returned (.string F0) ∧ w' = w := by
  refine (fin12 ⟨#[]⟩ ⟨#[]⟩ (by decide) w).mono ?_
  rintro e w' ⟨rfl, rfl⟩
  refine ⟨?_, rfl⟩
  have : K2 ++ (⟨#[]⟩ : ByteArray) ++ ⟨#[]⟩ ++ QF = F0 := by
    apply ByteArray.ext; simp [F0]
  rw [this]
theorem fin_left (w : World) : Calls Try.prog 12 #[.string ⟨#[0]⟩, .string ⟨#[]⟩] w fun e w' => e = .returned (.string F1) ∧ w' = w := by
  refine (fin12 ⟨#[0]⟩ ⟨#[]⟩ (by decide) w).mono ?_
  rintro e w' ⟨rfl, rfl⟩
  refine ⟨?_, rfl⟩
  have : K2 ++ (⟨#[0]⟩ : ByteArray) ++ ⟨#[]⟩ ++ QF = F1 := by
    apply ByteArray.ext; simp [F1]
  rw [this]
theorem fin_right (w : World) : Calls Try.prog 12 #[.string ⟨#[]⟩, .string ⟨#[0]⟩] w fun e w' => e = .returned (.string F1) ∧ w' = w := by
  refine (fin12 ⟨#[]⟩ ⟨#[0]⟩ (by decide) w).mono ?_
  rintro e w' ⟨rfl, rfl⟩
  refine ⟨?_, rfl⟩
  have : K2 ++ (⟨#[]⟩ : ByteArray) ++ ⟨#[0]⟩ ++ QF = F1 := by
    apply ByteArray.ext; simp [F1]
  rw [this]
theorem fd_F : fd F0.data.toList F1.data.toList = 20 := by
  have h0 : K2.data.toList.length = 20 := K2_size
  unfold F0 F1
  simp only [ByteArray.data_append, Array.toList_append, List.append_assoc]
  rw [fd_append, h0]
  simp only [List.cons_append]
  rw [fd_head]
  rw [QF_head]
  intro y hy; cases hy; decide
theorem diff_F (w : World) : Calls Try.prog 9 #[.string F0, .string F1] w fun e w' => e = .returned (.int .i64 20) ∧ ∃ n, w' = w.drewN n := by
  have h0 := F0_size
  have h1 := F1_size
  refine (diff_any F0 F1 (by omega) (by omega) w).mono ?_
  rw [fd_F]
  exact fun e w' h => h
theorem F0_left : F0.extract 0 20 = K2 := by
  have h0 : K2.data.size = 20 := K2_size
  apply ByteArray.ext
  simp [F0, h0]
theorem F0_right : F0.extract 20 970 = QF := by
  have h0 : K2.data.size = 20 := K2_size
  have h1 : QF.data.size = 950 := QF_size
  apply ByteArray.ext
  have e0 : K2.data.extract 20 20 = #[] := by rw [Array.extract_eq_empty_iff]; omega
  have e1 : QF.data.extract 0 950 = QF.data := by rw [← h1]; simp
  simp [F0, h0, e0, e1]

set_option maxRecDepth 10000 in
set_option maxHeartbeats 1000000 in
theorem fin_walk (a0 a1 : ByteArray) (hn : a0.size + a1.size ≤ 1048576) (ha : a0.size ≤ 524288) (hb : a1.size ≤ 524288) (w : World) :
    Calls Try.prog 5 #[.string a0, .string a1] w fun e w' => e = .returned (.bool true) ∧ Grown w w' := by
  have h0 := K2_size
  have h1 := QF_size
  have ht := F0_size
  go_enter Try.func5, Try.ntmps5
  go_wp2_with fail
  refine (bytes11_yes _ _ hn _).mono ?_
  rintro e w' ⟨rfl, rfl⟩
  go_wp2_with fail
  refine (fin_empty _).mono ?_
  rintro e w' ⟨rfl, rfl⟩
  go_wp2_with fail
  refine (fin_left _).mono ?_
  rintro e w' ⟨rfl, rfl⟩
  go_wp2_with fail
  refine (diff_F _).mono ?_
  rintro e w1 ⟨rfl, hw1⟩
  have HW1 : Hid (∃ n, w1 = w'.drewN n) := hw1
  clear hw1
  go_wp2_with fail
  refine (fin_right _).mono ?_
  rintro e w2 ⟨rfl, rfl⟩
  go_wp2_with fail
  refine (diff_F _).mono ?_
  rintro e w3 ⟨rfl, hw3⟩
  have HW3 : Hid (∃ n, w3 = w2.drewN n) := hw3
  clear hw3
  go_wp2_with fail
  go_quiet ((go_at_call 12; exact Calls.quiet_of_same (fin12 _ _ hn _)))
  rw [F0_left, F0_right]
  go_wp2
  go_ret
  exact ⟨by simp, grown_draws (draws_trans HW1.out HW3.out) _⟩
end Go.Proofs.Qxb6604080a
