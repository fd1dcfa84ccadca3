/-
  hexValue and modelEscapedUnit: the contracts.
-/
import Derived.Test.Qxb6604098aDoorEsc
import Derived.Below
namespace Go.Proofs.Qxb6604098aDoor
open Go.RowKit

theorem ret_i64 {a b : Int} (h : a = b) : Ending.returned (.int .i64 a) = .returned (.int .i64 b) := by rw [h]

/-- The ways of hexV. -/
theorem hexV_ways (c : UInt8) : (48 ≤ c.toNat ∧ c.toNat ≤ 57 ∧ hexV c = some (c.toNat - 48)) ∨ (97 ≤ c.toNat ∧ c.toNat ≤ 102 ∧ hexV c = some (c.toNat - 87)) ∨
    (65 ≤ c.toNat ∧ c.toNat ≤ 70 ∧ hexV c = some (c.toNat - 55)) ∨ (¬ (48 ≤ c.toNat ∧ c.toNat ≤ 57) ∧ ¬ (97 ≤ c.toNat ∧ c.toNat ≤ 102) ∧ ¬ (65 ≤ c.toNat ∧ c.toNat ≤ 70) ∧ hexV c = none) := by
  unfold hexV
  by_cases h1 : 48 ≤ c.toNat ∧ c.toNat ≤ 57
  · exact .inl ⟨h1.1, h1.2, if_pos h1⟩
  · by_cases h2 : 97 ≤ c.toNat ∧ c.toNat ≤ 102
    · exact .inr (.inl ⟨h2.1, h2.2, by rw [if_neg h1, if_pos h2]⟩)
    · by_cases h3 : 65 ≤ c.toNat ∧ c.toNat ≤ 70
      · exact .inr (.inr (.inl ⟨h3.1, h3.2, by rw [if_neg h1, if_neg h2, if_pos h3]⟩))
      · exact .inr (.inr (.inr ⟨h1, h2, h3, by rw [if_neg h1, if_neg h2, if_neg h3]⟩))

/-- What hexValue answers. -/
def hexI (c : UInt8) : Int := match hexV c with
  | some d => (d : Int)
  | none => -1
theorem hexI_some {c : UInt8} {d : Nat} (h : hexV c = some d) : hexI c = (d : Int) := by unfold hexI; rw [h]
theorem hexI_none {c : UInt8} (h : hexV c = none) : hexI c = -1 := by unfold hexI; rw [h]

set_option maxHeartbeats 1000000 in
theorem hexValue11 (c : UInt8) (w : World) :
    Calls Tryd.prog 11 #[.int .u8 (c.toNat : Int)] w fun e w' => e = .returned (.int .i64 (hexI c)) ∧ w' = w := by
  have hc256 : c.toNat < 256 := c.toNat_lt
  rcases hexV_ways c with ⟨h1, h2, hv⟩ | ⟨h1, h2, hv⟩ | ⟨h1, h2, hv⟩ | ⟨h1, h2, h3, hv⟩
  · have E := Lib.hid (hexI_some hv)
    clear hv
    go_enter Tryd.func11, Tryd.ntmps11
    go_wp2
    go_ret
    exact ⟨ret_i64 (by rw [E.out]; omega), rfl⟩
  · have E := Lib.hid (hexI_some hv)
    clear hv
    go_enter Tryd.func11, Tryd.ntmps11
    go_wp2
    go_ret
    exact ⟨ret_i64 (by rw [E.out]; omega), rfl⟩
  · have E := Lib.hid (hexI_some hv)
    clear hv
    go_enter Tryd.func11, Tryd.ntmps11
    go_wp2
    go_ret
    exact ⟨ret_i64 (by rw [E.out]; omega), rfl⟩
  · have E := Lib.hid (hexI_none hv)
    clear hv
    go_enter Tryd.func11, Tryd.ntmps11
    go_wp2
    all_goals go_ret
    all_goals exact ⟨ret_i64 (by rw [E.out]), rfl⟩

set_option maxHeartbeats 1000000 in
theorem mod_short (a : Option Addr) (len cap : Nat) (h : len < 6) (w : World) :
    Calls Tryd.prog 7 #[.slice a len cap] w fun e w' => e = .returned (.tuple #[.int .i32 0, .bool false]) ∧ w' = w := by
  have hi : (len : Int) < 6 := by omega
  go_enter Tryd.func7, Tryd.ntmps7
  go_wp2
  go_ret2
  exact ⟨rfl, rfl⟩

set_option maxHeartbeats 1000000 in
theorem mod_not0 (b o len cap : Nat) (c0 : UInt8) (h6 : 6 ≤ len) (w : World) (h0 : w.cell? ⟨b, o, none⟩ = some (.int .u8 (c0.toNat : Int))) (hn : ((c0.toNat : Int) != 92) = true) :
    Calls Tryd.prog 7 #[.slice (some ⟨b, o, none⟩) len cap] w fun e w' => e = .returned (.tuple #[.int .i32 0, .bool false]) ∧ w' = w := by
  have hi : (6 : Int) ≤ (len : Int) := by omega
  go_enter Tryd.func7, Tryd.ntmps7
  go_wp2
  go_ret2
  exact ⟨rfl, rfl⟩

set_option maxHeartbeats 1000000 in
theorem mod_not1 (b o len cap : Nat) (c0 c1 : UInt8) (h6 : 6 ≤ len) (w : World) (h0 : w.cell? ⟨b, o, none⟩ = some (.int .u8 (c0.toNat : Int))) (h1 : w.cell? ⟨b, o + 1, none⟩ = some (.int .u8 (c1.toNat : Int)))
    (hn : ((c0.toNat : Int) != 92) = false) (hn1 : ((c1.toNat : Int) != 117) = true) :
    Calls Tryd.prog 7 #[.slice (some ⟨b, o, none⟩) len cap] w fun e w' => e = .returned (.tuple #[.int .i32 0, .bool false]) ∧ w' = w := by
  have hi : (6 : Int) ≤ (len : Int) := by omega
  go_enter Tryd.func7, Tryd.ntmps7
  go_wp2
  go_ret2
  exact ⟨rfl, rfl⟩

set_option maxHeartbeats 1000000 in
theorem mod_main (b o len cap : Nat) (c0 c1 : UInt8) (bs : List UInt8) (h6 : 6 ≤ len) (w : World) (h0 : w.cell? ⟨b, o, none⟩ = some (.int .u8 (c0.toNat : Int))) (h1 : w.cell? ⟨b, o + 1, none⟩ = some (.int .u8 (c1.toNat : Int)))
    (hn : ((c0.toNat : Int) != 92) = false) (hn1 : ((c1.toNat : Int) != 117) = false) (hbl : bs.length = 4)
    (hB : ∀ j, j < 4 → w.cell? ⟨b, o + (j + 2), none⟩ = some (.int .u8 ((bs.getD j 0).toNat : Int))) :
    Calls Tryd.prog 7 #[.slice (some ⟨b, o, none⟩) len cap] w fun e w' => e = .returned (escV (hexF 0 bs)) ∧ w' = w := by
  have hi : (6 : Int) ≤ (len : Int) := by omega
  have HB := Lib.hid hB
  have HL := Lib.hid hbl
  clear hB hbl
  go_enter Tryd.func7, Tryd.ntmps7
  go_wp2
  go_loop [4, 5] (fun vv vi => ∃ (k acc : Nat) (a : Int), vv = .int .i64 a ∧ vi = .int .i64 ((k + 2 : Nat) : Int) ∧ k ≤ 4 ∧ Hid (a = (acc : Int) ∧ acc < 16 ^ k ∧ hexF 0 bs = hexF acc (bs.drop k)))
    (fun _ vi => 6 - (intOf vi).toNat)
  case atStart => exact ⟨0, 0, 0, rfl, rfl, by omega, rfl, by decide, rfl⟩
  case round =>
    obtain ⟨k, acc, a, rfl, rfl, hk, hh⟩ := hrel
    obtain ⟨ha, hacc, hdec⟩ := hh.out
    clear hh
    have hbl := HL.out
    by_cases hkn : k < 4
    · have hc := HB.out k hkn
      have hdrop : bs.drop k = bs[k]'(by omega) :: bs.drop (k + 1) := List.drop_eq_getElem_cons (by omega)
      have hget : bs.getD k 0 = bs[k]'(by omega) := by simp [List.getD, List.getElem?_eq_getElem (show k < bs.length by omega)]
      rw [hdrop] at hdec
      rw [hget] at hc
      generalize bs[k]'(by omega) = c at hc hdec
      have h65 := step_bound (d := 15) hacc (by omega) hkn
      have a0 : 0 ≤ a := by omega
      have a1 : a ≤ 4095 := by omega
      clear hdrop hget hbl
      cases hv : hexV c with
      | none =>
        have hF := hexF_none (acc := acc) (cs := bs.drop (k + 1)) hv
        rw [hF] at hdec
        have HD := Lib.hid hdec
        have hcall := fun W => hexValue11 c W
        rw [hexI_none hv] at hcall
        clear hdec hF hacc ha h65 hv
        have HC := Lib.hid hcall
        clear hcall
        go_wp2_with fail
        refine (HC.out _).mono ?_
        rintro e w' ⟨rfl, rfl⟩
        go_wp2
        go_ret2
        exact ⟨by rw [HD.out]; rfl, rfl⟩
      | some d =>
        have hF := hexF_some (acc := acc) (cs := bs.drop (k + 1)) hv
        have hd := hexV_lt hv
        have hS := step_bound (d := d) hacc hd hkn
        have HN : Hid (a * 16 + (d : Int) = ((acc * 16 + d : Nat) : Int) ∧ acc * 16 + d < 16 ^ (k + 1) ∧ hexF 0 bs = hexF (acc * 16 + d) (bs.drop (k + 1))) := Lib.hid ⟨by omega, hS.1, hdec.trans hF⟩
        have hcall := fun W => hexValue11 c W
        rw [hexI_some hv] at hcall
        have HC := Lib.hid hcall
        clear hcall hdec hF hacc ha h65 hv hS
        go_wp2_with fail
        refine (HC.out _).mono ?_
        rintro e w' ⟨rfl, rfl⟩
        go_wp2
        go_round
        case rel => exact ⟨k + 1, acc * 16 + d, a * 16 + (d : Int), rfl, by go_num, by omega, HN⟩
        case measure => simp [intOf]; omega
    · have hkk : k = 4 := by omega
      subst hkk
      have hF : hexF acc (bs.drop 4) = some acc := by rw [List.drop_eq_nil_of_le (by omega)]; rfl
      rw [hF] at hdec
      have h4 : (16 : Nat) ^ 4 = 65536 := by decide
      have hacc' : acc < 65536 := by omega
      subst ha
      have HD := Lib.hid hdec
      clear hacc hF hdec h4 hbl
      go_wp2
      go_ret2
      exact ⟨by rw [HD.out]; rfl, rfl⟩

theorem model7 (v : Value) (l : List UInt8) (w : World) (h : SliceIs w v l) :
    Calls Tryd.prog 7 #[v] w fun e w' => e = .returned (escV (escOf l)) ∧ w' = w := by
  rcases h with ⟨rfl, a, cap, rfl⟩ | ⟨b, o, cap, rfl, hcap, hrow⟩
  · exact mod_short a 0 cap (by omega) w
  · by_cases h6 : l.length < 6
    · rw [escOf_short h6]
      exact mod_short _ _ cap h6 w
    · match l, hrow, h6, hcap with
      | c0 :: c1 :: x0 :: x1 :: x2 :: x3 :: rest, hrow, h6, hcap =>
        have r0 : w.cell? ⟨b, o, none⟩ = some (.int .u8 (c0.toNat : Int)) := hrow 0 (by simp)
        have r1 : w.cell? ⟨b, o + 1, none⟩ = some (.int .u8 (c1.toNat : Int)) := hrow 1 (by simp)
        by_cases e0 : c0 = 92
        · have n0 : c0.toNat = 92 := by rw [e0]; rfl
          by_cases e1 : c1 = 117
          · have n1 : c1.toNat = 117 := by rw [e1]; rfl
            have hE : escOf (c0 :: c1 :: x0 :: x1 :: x2 :: x3 :: rest) = hexF 0 [x0, x1, x2, x3] := by simp [escOf, e0, e1]
            rw [hE]
            refine mod_main b o _ cap c0 c1 [x0, x1, x2, x3] (by omega) w r0 r1 (byte_ne_false n0) (byte_ne_false n1) rfl ?_
            intro j hj
            have := hrow (j + 2) (by simp only [List.length_cons]; omega)
            rw [this]
            have hj' : j = 0 ∨ j = 1 ∨ j = 2 ∨ j = 3 := by omega
            rcases hj' with rfl | rfl | rfl | rfl <;> rfl
          · have n1 : ¬ c1.toNat = 117 := fun h => e1 (UInt8.toNat_inj.mp h)
            have hE : escOf (c0 :: c1 :: x0 :: x1 :: x2 :: x3 :: rest) = none := by simp [escOf, e1]
            rw [hE]
            exact mod_not1 b o _ cap c0 c1 (by omega) w r0 r1 (byte_ne_false n0) (byte_ne_true n1)
        · have n0 : ¬ c0.toNat = 92 := fun h => e0 (UInt8.toNat_inj.mp h)
          have hE : escOf (c0 :: c1 :: x0 :: x1 :: x2 :: x3 :: rest) = none := by simp [escOf, e0]
          rw [hE]
          exact mod_not0 b o _ cap c0 (by omega) w r0 (byte_ne_true n0)
      | [], _, h6, _ => simp at h6
      | [_], _, h6, _ => simp at h6
      | [_, _], _, h6, _ => simp at h6
      | [_, _, _], _, h6, _ => simp at h6
      | [_, _, _, _], _, h6, _ => simp at h6
      | [_, _, _, _, _], _, h6, _ => simp at h6
end Go.Proofs.Qxb6604098aDoor
