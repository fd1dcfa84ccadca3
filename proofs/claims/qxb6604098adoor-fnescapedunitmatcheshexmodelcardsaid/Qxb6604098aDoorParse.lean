/-
  internal/strconv.ParseUint(s, 16, 16) at a string of one to four bytes: the walk.
-/
import Derived.Test.Qxb6604098aDoorRows
import Derived.Test.Qxb6604098aDoorPlain
import Derived.Lib.Strings
import Derived.Lib.Walk
import Derived.Lib.ConvBytes
import Derived.Lib.Hide
import Derived.Laws.Strings3
import Derived.Laws.Closers25
import Derived.Laws.Closers25b
import Derived.WalkKit
import Derived.BigCall
import Derived.BigGuard
namespace Go.Proofs.Qxb6604098aDoor
open Go.RowKit

theorem lower_any (c : Int) (w : World) :
    Calls Tryd.prog 15 #[.int .u8 c] w fun e w' => e = .returned (.int .u8 (bits .or .u8 c 32)) ∧ w' = w := by
  go_enter Tryd.func15, Tryd.ntmps15
  go_wp2
  go_ret
  exact ⟨rfl, rfl⟩

theorem lower_L (c L : Int) (h : bits .or .u8 c 32 = L) (w : World) :
    Calls Tryd.prog 15 #[.int .u8 c] w fun e w' => e = .returned (.int .u8 L) ∧ w' = w := by
  subst h
  exact lower_any c w

/-- What the inner ParseUint hands back: the number, or ErrSyntax of the inner package. -/
def puEnd : Option Nat → Value
  | some n => .tuple #[.int .u64 (n : Int), .nilIface]
  | none => .tuple #[.int .u64 0, .iface 37 (.int .i64 2)]

set_option maxHeartbeats 4000000 in
set_option maxRecDepth 100000 in
theorem parse16 (t : ByteArray) (hne : t.size ≠ 0) (hmax : t.size ≤ 4) (w : World) :
    Calls Tryd.prog 13 #[.string t, .int .i64 16, .int .i64 16] w fun e w' => e = .returned (puEnd (hexF 0 t.data.toList)) ∧ w' = Lib.bytesWorld w 5 t := by
  have hemp : t.toList.isEmpty = false := by
    rw [← decide_eq_emptyBytes]
    exact decide_eq_false (fun h => hne (by rw [h]; rfl))
  have hcv := Lib.run_convert_string_bytes (P := Tryd.prog) w 9 22 5 t (u := .string) Tryd.underlying9 Tryd.underlying22 Tryd.underlying5
  have hB : ∀ j, j < t.size → (Lib.bytesWorld w 5 t).cell? ⟨w.heap.size, j, none⟩ = some (.int .u8 (t.data.toList.getD j 0).toNat) := fun j hj => Lib.bytesWorld_cell w 5 t j hj
  obtain ⟨W1, hW1⟩ : ∃ W1, W1 = Lib.bytesWorld w 5 t := ⟨_, rfl⟩
  rw [← hW1] at hcv hB ⊢
  clear hW1
  obtain ⟨bs, hL⟩ : ∃ bs, bs = t.data.toList := ⟨_, rfl⟩
  have hLn : bs.length = t.size := by rw [hL, Lib.size_eq]
  rw [← hL] at hB ⊢
  clear hL
  have hmv : IntKind.u64.wrap (IntKind.u64.wrap 65536 - 1) = 65535 := by
    rw [IntKind.wrap_u64, IntKind.wrap_u64]
    decide
  go_enter Tryd.func13, Tryd.ntmps13
  go_wp2
  go_loop [12, 13, 101] (fun vu vn vi => ∃ (k acc : Nat) (a : Int), vu = .bool false ∧ vn = .int .u64 a ∧ vi = .int .i64 k ∧ k ≤ t.size ∧ Hid (a = (acc : Int) ∧ acc < 16 ^ k ∧ hexF 0 bs = hexF acc (bs.drop k)))
    (fun _ _ vi => t.size - (intOf vi).toNat)
  case atStart => exact ⟨0, 0, 0, rfl, rfl, rfl, by omega, rfl, by decide, rfl⟩
  case round =>
    obtain ⟨k, acc, a, rfl, rfl, rfl, hk, hh⟩ := hrel
    obtain ⟨ha, hacc, hdec⟩ := hh.out
    clear hh
    by_cases hkn : k < t.size
    · have hc := hB k hkn
      have hdrop : bs.drop k = bs[k]'(by omega) :: bs.drop (k + 1) := List.drop_eq_getElem_cons (by omega)
      have hget : bs.getD k 0 = bs[k]'(by omega) := by simp [List.getD, List.getElem?_eq_getElem (show k < bs.length by omega)]
      rw [hdrop] at hdec
      rw [hget] at hc
      generalize bs[k]'(by omega) = c at hc hdec
      have hc256 : c.toNat < 256 := c.toNat_lt
      have h65 := step_bound (d := 15) hacc (by omega) (by omega)
      have a0 : 0 ≤ a := by omega
      have a1 : a ≤ 4095 := by omega
      clear hB hdrop hget
      by_cases hdig : 48 ≤ c.toNat ∧ c.toNat ≤ 57
      · have hF := hexF_some (acc := acc) (cs := bs.drop (k + 1)) (hexV_digit hdig)
        have hS := step_bound (d := c.toNat - 48) hacc (by omega) (by omega)
        obtain ⟨hd0, hd1⟩ := hdig
        have HN : Hid (a * 16 + ((c.toNat : Int) - 48) = ((acc * 16 + (c.toNat - 48) : Nat) : Int) ∧ acc * 16 + (c.toNat - 48) < 16 ^ (k + 1) ∧ hexF 0 bs = hexF (acc * 16 + (c.toNat - 48)) (bs.drop (k + 1))) := Lib.hid ⟨by omega, hS.1, hdec.trans hF⟩
        have iov : a * 16 + ((c.toNat : Int) - 48) ≤ 65535 := by omega
        clear hacc hF hdec ha hS h65
        go_wp2
        refine ⟨⟨k + 1, acc * 16 + (c.toNat - 48), a * 16 + ((c.toNat : Int) - 48), rfl, (by first | rfl | (congr 1; omega)), (by first | rfl | (congr 1; omega)), by omega, HN⟩, by simp [intOf]; omega⟩
      · obtain ⟨L, hbits, hL256, hL⟩ := lower_of c hdig
        have HB : Hid (bits .or .u8 (c.toNat : Int) 32 = (L : Int)) := Lib.hid hbits
        clear hbits
        rcases hL with ⟨hL0, hL1, h95, hv⟩ | ⟨hL0, hv⟩
        · -- a letter that is a digit
          have hF := hexF_some (acc := acc) (cs := bs.drop (k + 1)) hv
          have hS := step_bound (d := L - 87) hacc (by omega) (by omega)
          have HN : Hid (a * 16 + ((L : Int) - 97 + 10) = ((acc * 16 + (L - 87) : Nat) : Int) ∧ acc * 16 + (L - 87) < 16 ^ (k + 1) ∧ hexF 0 bs = hexF (acc * 16 + (L - 87)) (bs.drop (k + 1))) := Lib.hid ⟨by omega, hS.1, hdec.trans hF⟩
          have iov : a * 16 + ((L : Int) - 97 + 10) ≤ 65535 := by omega
          have hc95 : ((c.toNat : Int) == 95) = false := by simpa using (by omega : ¬ (c.toNat : Int) = 95)
          have hdig' : ¬ (48 ≤ (c.toNat : Int) ∧ (c.toNat : Int) ≤ 57) := by omega
          clear hacc hF hdec ha hS h65 hv h95
          go_wp2_with (go_at_call 15; refine (lower_L _ _ HB.out _).mono ?_; rintro e w' ⟨rfl, rfl⟩)
          all_goals refine ⟨⟨k + 1, acc * 16 + (L - 87), a * 16 + ((L : Int) - 97 + 10), rfl, rfl, (by first | rfl | (congr 1; omega)), by omega, HN⟩, by simp [intOf]; omega⟩
        · -- no digit: whatever way the text goes
          have hF := hexF_none (acc := acc) (cs := bs.drop (k + 1)) hv
          rw [hF] at hdec
          have hdig' : ¬ (48 ≤ (c.toNat : Int) ∧ (c.toNat : Int) ≤ 57) := by omega
          clear hacc hF ha h65 hv
          have HD : Hid (hexF 0 bs = none) := Lib.hid hdec
          clear hdec
          by_cases h95 : c.toNat = 95
          · have hc95 : ((c.toNat : Int) == 95) = true := by simpa using (by omega : (c.toNat : Int) = 95)
            clear h95
            rcases hL0 with hL0 | hL0
            all_goals
              go_wp2_with (go_at_call 15; refine (lower_L _ _ HB.out _).mono ?_; rintro e w' ⟨rfl, rfl⟩)
              all_goals go_ret2
              all_goals exact ⟨by rw [HD.out]; rfl, rfl⟩
          · have hc95 : ((c.toNat : Int) == 95) = false := by simpa using (by omega : ¬ (c.toNat : Int) = 95)
            clear h95
            rcases hL0 with hL0 | hL0
            all_goals
              go_wp2_with (go_at_call 15; refine (lower_L _ _ HB.out _).mono ?_; rintro e w' ⟨rfl, rfl⟩)
              all_goals go_ret2
              all_goals exact ⟨by rw [HD.out]; rfl, rfl⟩
    · -- THE BYTES ARE AT AN END
      have hkk : k = t.size := by omega
      subst hkk
      have hF : hexF acc (bs.drop t.size) = some acc := by rw [List.drop_eq_nil_of_le (by omega)]; rfl
      rw [hF] at hdec
      subst ha
      clear hacc hF
      go_wp2
      go_ret2
      exact ⟨rfl, rfl⟩
end Go.Proofs.Qxb6604098aDoor
