/-
  The contracts of orderedClaimStatement and ZZorderedClaimStatement, and the law's walk.
-/
import Derived.Test.Qxb6604080aFin
namespace Go.Proofs.Qxb6604080a
open Go.ChangeShapes Go.WideShapes Go.ChangeAt Go.RowKit

/-- What claiming answers inside; what stands between the two spliced texts; what stands behind them. -/
def KC : ByteArray := K0 ++ K18 ++ K1
def MO : ByteArray := K14 ++ K4 ++ K15 ++ K16 ++ K17 ++ KC ++ K19 ++ K4 ++ K20 ++ K4 ++ K21
def QO : ByteArray := K22 ++ K6 ++ K23 ++ K24 ++ K25
theorem KC_size : KC.size = 383 := by
  have h0 := K0_size
  have h1 := K1_size
  have h2 := K18_size
  unfold KC
  simp only [ByteArray.size_append]
  omega
theorem MO_size : MO.size = 1769 := by
  have s14 := K14_size
  have s4 := K4_size
  have s15 := K15_size
  have s16 := K16_size
  have s17 := K17_size
  have sC := KC_size
  have s19 := K19_size
  have s20 := K20_size
  have s21 := K21_size
  unfold MO
  simp only [ByteArray.size_append]
  omega
theorem QO_size : QO.size = 702 := by
  have s22 := K22_size
  have s6 := K6_size
  have s23 := K23_size
  have s24 := K24_size
  have s25 := K25_size
  unfold QO
  simp only [ByteArray.size_append]
  omega
theorem MO_head : MO.data.toList.head? = some 44 := by kernel_rfl
theorem QO_head : QO.data.toList.head? = some 32 := by kernel_rfl

theorem claiming_mid (w : World) : Calls Try.prog 15 #[.string K18] w fun e w' => e = .returned (.string KC) ∧ w' = w := by
  have h := K18_size
  exact claiming_any K18 (by omega) w

set_option maxRecDepth 10000 in
set_option maxHeartbeats 1000000 in
theorem ord17 (a b : ByteArray) (h : a.size + b.size ≤ 1048576) (w : World) :
    Calls Try.prog 17 #[.string a, .string b] w fun e w' => e = .returned (.string (K13 ++ a ++ MO ++ b ++ QO)) ∧ w' = w := by
  have s13 := K13_size
  have sC := KC_size
  have s14 := K14_size
  have s4 := K4_size
  have s15 := K15_size
  have s16 := K16_size
  have s17 := K17_size
  have s19 := K19_size
  have s20 := K20_size
  have s21 := K21_size
  have s22 := K22_size
  have s6 := K6_size
  have s23 := K23_size
  have s24 := K24_size
  have s25 := K25_size
  go_enter Try.func17, Try.ntmps17
  rw [← K13.eq_1, ← K14.eq_1, ← K4.eq_1, ← K15.eq_1, ← K16.eq_1, ← K17.eq_1, ← K19.eq_1, ← K20.eq_1, ← K21.eq_1, ← K18.eq_1, ← K22.eq_1, ← K6.eq_1, ← K23.eq_1, ← K24.eq_1, ← K25.eq_1]
  go_wp2_with (go_at_call 15; refine (claiming_mid _).mono ?_; rintro e w' ⟨rfl, rfl⟩)
  go_ret
  refine ⟨?_, rfl⟩
  show Ending.returned (.string (K13 ++ a ++ K14 ++ K4 ++ K15 ++ K16 ++ K17 ++ KC ++ K19 ++ K4 ++ K20 ++ K4 ++ K21 ++ b ++ K22 ++ K6 ++ K23 ++ K24 ++ K25)) = _
  simp only [MO, QO, ByteArray.append_assoc]

set_option maxHeartbeats 400000 in
theorem ord14 (a b : ByteArray) (h : a.size + b.size ≤ 1048576) (w : World) :
    Calls Try.prog 14 #[.string a, .string b] w fun e w' => e = .returned (.string (K13 ++ a ++ MO ++ b ++ QO)) ∧ w' = w := by
  go_enter Try.func14, Try.ntmps14
  go_wp2_with (go_at_call 17; refine (ord17 _ _ h _).mono ?_; rintro e w' ⟨rfl, rfl⟩)
  go_ret
  exact ⟨rfl, rfl⟩

set_option maxHeartbeats 400000 in
theorem bytes13_yes (a b : ByteArray) (h : a.size + b.size ≤ 1048576) (w : World) :
    Calls Try.prog 13 #[.string a, .string b] w fun e w' => e = .returned (.bool true) ∧ w' = w := by
  go_enter Try.func13, Try.ntmps13
  go_wp2
  go_ret
  exact ⟨rfl, rfl⟩

set_option maxHeartbeats 400000 in
theorem bytes13_no (a b : ByteArray) (h : ¬ a.size + b.size ≤ 1048576) (w : World) :
    Calls Try.prog 13 #[.string a, .string b] w fun e w' => e = .returned (.bool false) ∧ w' = w := by
  by_cases ha : 1048576 < a.size
  · go_enter Try.func13, Try.ntmps13
    go_wp2
    go_ret
    exact ⟨rfl, rfl⟩
  · by_cases hb : 1048576 < b.size
    · go_enter Try.func13, Try.ntmps13
      go_wp2
      go_ret
      exact ⟨rfl, rfl⟩
    · go_enter Try.func13, Try.ntmps13
      go_wp2
      go_ret
      exact ⟨rfl, rfl⟩

/-- The template with nothing spliced in; with one zero byte at the first place; at the second. -/
def O0 : ByteArray := K13 ++ MO ++ QO
def O1 : ByteArray := K13 ++ ⟨#[0]⟩ ++ MO ++ QO
def O2 : ByteArray := K13 ++ MO ++ ⟨#[0]⟩ ++ QO
theorem O0_size : O0.size = 2476 := by
  have h0 := K13_size
  have h1 := MO_size
  have h2 := QO_size
  unfold O0; simp only [ByteArray.size_append]; omega
theorem O1_size : O1.size = 2477 := by
  have h0 := K13_size
  have h1 := MO_size
  have h2 := QO_size
  have h3 : (⟨#[0]⟩ : ByteArray).size = 1 := rfl
  unfold O1; simp only [ByteArray.size_append]; omega
theorem O2_size : O2.size = 2477 := by
  have h0 := K13_size
  have h1 := MO_size
  have h2 := QO_size
  have h3 : (⟨#[0]⟩ : ByteArray).size = 1 := rfl
  unfold O2; simp only [ByteArray.size_append]; omega
theorem ord_empty (w : World) : Calls Try.prog 14 #[.string ⟨#[]⟩, .string ⟨#[]⟩] w fun e w' => e = .returned (.string O0) ∧ w' = w := by
  refine (ord14 ⟨#[]⟩ ⟨#[]⟩ (by decide) w).mono ?_
  rintro e w' ⟨rfl, rfl⟩
  refine ⟨?_, rfl⟩
  have : K13 ++ (⟨#[]⟩ : ByteArray) ++ MO ++ ⟨#[]⟩ ++ QO = O0 := by
    apply ByteArray.ext; simp [O0]
  rw [this]
theorem ord_left (w : World) : Calls Try.prog 14 #[.string ⟨#[0]⟩, .string ⟨#[]⟩] w fun e w' => e = .returned (.string O1) ∧ w' = w := by
  refine (ord14 ⟨#[0]⟩ ⟨#[]⟩ (by decide) w).mono ?_
  rintro e w' ⟨rfl, rfl⟩
  refine ⟨?_, rfl⟩
  have : K13 ++ (⟨#[0]⟩ : ByteArray) ++ MO ++ ⟨#[]⟩ ++ QO = O1 := by
    apply ByteArray.ext; simp [O1]
  rw [this]
theorem ord_right (w : World) : Calls Try.prog 14 #[.string ⟨#[]⟩, .string ⟨#[0]⟩] w fun e w' => e = .returned (.string O2) ∧ w' = w := by
  refine (ord14 ⟨#[]⟩ ⟨#[0]⟩ (by decide) w).mono ?_
  rintro e w' ⟨rfl, rfl⟩
  refine ⟨?_, rfl⟩
  have : K13 ++ (⟨#[]⟩ : ByteArray) ++ MO ++ ⟨#[0]⟩ ++ QO = O2 := by
    apply ByteArray.ext; simp [O2]
  rw [this]
theorem fd_O1 : fd O0.data.toList O1.data.toList = 5 := by
  have h0 : K13.data.toList.length = 5 := K13_size
  unfold O0 O1
  simp only [ByteArray.data_append, Array.toList_append, List.append_assoc]
  rw [fd_append, h0]
  simp only [List.cons_append]
  rw [fd_head]
  rw [List.head?_append, MO_head]
  intro y hy; cases hy; decide
theorem fd_O2 : fd O0.data.toList O2.data.toList = 1774 := by
  have h0 : K13.data.toList.length = 5 := K13_size
  have h1 : MO.data.toList.length = 1769 := MO_size
  unfold O0 O2
  simp only [ByteArray.data_append, Array.toList_append, List.append_assoc]
  rw [fd_append, fd_append, h0, h1]
  simp only [List.cons_append]
  rw [fd_head]
  rw [QO_head]
  intro y hy; cases hy; decide
theorem diff_O1 (w : World) : Calls Try.prog 9 #[.string O0, .string O1] w fun e w' => e = .returned (.int .i64 5) ∧ ∃ n, w' = w.drewN n := by
  have h0 := O0_size
  have h1 := O1_size
  refine (diff_any O0 O1 (by omega) (by omega) w).mono ?_
  rw [fd_O1]
  exact fun e w' h => h
theorem diff_O2 (w : World) : Calls Try.prog 9 #[.string O0, .string O2] w fun e w' => e = .returned (.int .i64 1774) ∧ ∃ n, w' = w.drewN n := by
  have h0 := O0_size
  have h1 := O2_size
  refine (diff_any O0 O2 (by omega) (by omega) w).mono ?_
  rw [fd_O2]
  exact fun e w' h => h
theorem extract_left (p q : ByteArray) : (p ++ q).extract 0 p.size = p := ByteArray.extract_append_eq_left rfl
theorem extract_right (p q : ByteArray) : (p ++ q).extract p.size (p.size + q.size) = q := ByteArray.extract_append_eq_right rfl rfl
theorem extract_mid (p m q : ByteArray) : (p ++ m ++ q).extract p.size (p.size + m.size) = m := by
  have e : p.size + m.size = (p ++ m).size := by rw [ByteArray.size_append]
  rw [e, ByteArray.extract_append_size_left, ← e, extract_right]
theorem O0_left : O0.extract 0 5 = K13 := by
  have h := extract_left K13 (MO ++ QO)
  rw [K13_size, ← ByteArray.append_assoc] at h
  exact h
theorem O0_mid : O0.extract 5 1774 = MO := by
  have h := extract_mid K13 MO QO
  rw [K13_size, MO_size] at h
  exact h
theorem O0_right : O0.extract 1774 2476 = QO := by
  have h := extract_right (K13 ++ MO) QO
  rw [ByteArray.size_append, K13_size, MO_size, QO_size] at h
  exact h

set_option maxRecDepth 10000 in
set_option maxHeartbeats 1000000 in
theorem ord_walk (a0 a1 : ByteArray) (hn : a0.size + a1.size ≤ 1048576) (ha : a0.size ≤ 524288) (hb : a1.size ≤ 524288) (w : World) :
    Calls Try.prog 6 #[.string a0, .string a1] w fun e w' => e = .returned (.bool true) ∧ Grown w w' := by
  have h0 := K13_size
  have h1 := MO_size
  have h2 := QO_size
  have ht := O0_size
  go_enter Try.func6, Try.ntmps6
  go_wp2_with fail
  refine (bytes13_yes _ _ hn _).mono ?_
  rintro e w' ⟨rfl, rfl⟩
  go_wp2_with fail
  refine (ord_empty _).mono ?_
  rintro e w' ⟨rfl, rfl⟩
  go_wp2_with fail
  refine (ord_left _).mono ?_
  rintro e w' ⟨rfl, rfl⟩
  go_wp2_with fail
  refine (diff_O1 _).mono ?_
  rintro e w1 ⟨rfl, hw1⟩
  have HW1 : Hid (∃ n, w1 = w'.drewN n) := hw1
  clear hw1
  go_wp2_with fail
  refine (ord_right _).mono ?_
  rintro e w2 ⟨rfl, rfl⟩
  go_wp2_with fail
  refine (diff_O2 _).mono ?_
  rintro e w3 ⟨rfl, hw3⟩
  have HW3 : Hid (∃ n, w3 = w2.drewN n) := hw3
  clear hw3
  go_wp2_with fail
  go_quiet ((go_at_call 14; exact Calls.quiet_of_same (ord14 _ _ hn _)))
  rw [O0_left, O0_mid, O0_right]
  go_wp2
  go_ret
  exact ⟨by simp, grown_draws (draws_trans HW1.out HW3.out) _⟩
end Go.Proofs.Qxb6604080a
