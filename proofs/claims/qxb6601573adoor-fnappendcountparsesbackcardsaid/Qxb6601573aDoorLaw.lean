/-
  The walk of FnAppendCountParsesBack.
-/
import Derived.Test.Qxb6601573aDoorSame
import Derived.Test.Qxb6601573aDoorCount
import Derived.Test.Qxb6601573aDoorDec
namespace Go.Proofs.Qxb6601573aDoor
open Go.RowKit

theorem below_draws {w w' : World} (h : ∃ n, w' = w.drewN n) : Below w.heap.size w w' := by
  obtain ⟨n, rfl⟩ := h
  exact below_drewN (Below.refl _ _) n

theorem owns_form {w : World} {B N : Nat} {v : Value} {xs : List Value} (h : w.ownsRow B 5 1 v N xs) (hN : 1 ≤ N) : ∃ g cap, v = .slice (some ⟨g, 0, none⟩) N cap ∧ N ≤ cap ∧ cap ≤ maxLen ∧ B ≤ g := by
  rcases h.2 with ⟨_, e⟩ | ⟨g, cap, cur, e, hb, _, hn, hm, _⟩
  · omega
  · exact ⟨g, cap, e, hn, hm, hb⟩

theorem slice_eq {g x x' y y' z : Nat} (hx : x = x') (hy : y = y') : Value.slice (some ⟨g, x, none⟩) y z = .slice (some ⟨g, x', none⟩) y' z := by rw [hx, hy]

/-- A part of a row. -/
theorem RowIs.part {w : World} {b : Nat} {l m r : List UInt8} (h : RowIs w b 0 (l ++ m ++ r)) : RowIs w b l.length m := fun j hj => by
  have := h (l.length + j) (by simp; omega)
  rw [Nat.zero_add] at this
  rw [this]
  congr 3
  rw [List.getElem_append_left (by simp; omega), List.getElem_append_right (by omega)]
  congr 1
  simp

set_option maxHeartbeats 4000000 in
theorem law_main (a : Option Addr) (len cap nb no : Nat) (l : List UInt8) (key : ByteArray) (n : Int) (hn0 : -9223372036854775808 ≤ n) (hn1 : n ≤ 9223372036854775807) (h : len + key.size ≤ 1048576) (hno : has61 key = false) (w : World) (hA : ArgIs w a len cap l)
    (hn : w.cell? ⟨nb, no, none⟩ = some (.int .i64 n)) (htab : Lib.TabBelow Tryd.prog w.heap.size w Tryd.powName .u64 Lib.pow10Tab) :
    Calls Tryd.prog 3 #[.slice a len cap, .string key, .pointer (some ⟨nb, no, none⟩)] w fun e w' => e = .returned (.bool true) ∧ Below w.heap.size w w' := by
  have HA := Lib.hid hA
  have HT := Lib.hid htab
  have HN := Lib.hid hn
  have HNO := Lib.hid hno
  clear hA htab hn hno
  go_enter Tryd.func3, Tryd.ntmps3
  go_wp2_with fail
  refine (bytes4_yes _ _ _ _ _ h _).mono ?_
  rintro e w0 ⟨rfl, rfl⟩
  go_wp2_with fail
  have h5 := hasByte5 key (by omega) w0
  rw [HNO.out] at h5
  refine h5.mono ?_
  clear h5
  rintro e w0' ⟨rfl, rfl⟩
  go_wp2_with fail
  refine (clone6 a len cap l (by omega) _ HA.out).mono ?_
  rintro e w1 ⟨v1, rfl, hc1, hb1⟩
  have hn1' : w1.cell? ⟨nb, no, none⟩ = some (.int .i64 n) := (hb1.cell (World.block_lt_of_cell? _ _ HN.out)).trans HN.out
  obtain ⟨a1, e1, hA1⟩ := hc1.arg
  have hlen : l.length = len := HA.out.1
  rw [hlen] at e1 hA1
  subst e1
  have HC1 := Lib.hid hc1
  have HB1 := Lib.hid hb1
  have hbx : Below w1.heap.size w1 (w1.alloc (.cells #[.int .i64 n] 3)) := (Below.refl _ _).alloc (Nat.le_refl _) _
  have HA1 := Lib.hid (hA1.on hbx)
  have HBX := Lib.hid hbx
  have HLN := Lib.hid hlen
  clear hc1 hb1 hbx hA1 hlen
  go_wp2_with fail
  refine (clone6 a1 len len l (by omega) _ HA1.out).mono ?_
  rintro e w3 ⟨v3, rfl, hc3, hb3⟩
  have hsz : (w1.alloc (.cells #[.int .i64 n] 3)).heap.size = w1.heap.size + 1 := by simp
  have hbox : w3.cell? ⟨w1.heap.size, 0, none⟩ = some (.int .i64 n) := (hb3.cell (show (⟨w1.heap.size, 0, none⟩ : Addr).block < _ by rw [hsz]; exact Nat.lt_succ_self _)).trans (by simp)
  have hb13 : Below w1.heap.size w1 w3 := HBX.out.trans (hb3.mono (by rw [hsz]; omega))
  have hb03 : Below w0'.heap.size w0' w3 := HB1.out.trans (hb13.mono HB1.out.size)
  have hA3 := HA1.out.on hb3
  have hs3 := hc3.slice
  obtain ⟨a3, e3, -⟩ := hc3.arg
  rw [HLN.out] at e3
  subst e3
  have h7 := count7 a1 len w1.heap.size 0 l key n hn0 hn1 (by omega) (by omega) w3 hA3 hbox (fun w' hb => HT.out w' (hb03.trans (hb.mono hb03.size)))
  have H7 := Lib.hid h7
  have HB03 := Lib.hid hb03
  have HS3 := Lib.hid hs3
  have HBOX := Lib.hid hbox
  clear h7 hA3 hs3 hb03 hb13 hbox hc3 hb3 HA1 HBX HC1 HB1 hn1' hsz
  go_wp2_with fail
  refine H7.out.mono ?_
  rintro e w4 ⟨v4, rfl, ho4, hb4⟩
  obtain ⟨g, cap4, rfl, hN, hcm, hg⟩ := owns_form ho4 (by omega)
  have hrow := cells_at ho4
  have hbox4 : w4.cell? ⟨w1.heap.size, 0, none⟩ = some (.int .i64 n) := (hb4.cell (World.block_lt_of_cell? _ _ HBOX.out)).trans HBOX.out
  have HS4 := Lib.hid (HS3.out.on hb4)
  have HB04 := Lib.hid (HB03.out.trans (hb4.mono HB03.out.size))
  have hD1 : 1 ≤ (Lib.itoa n).length := by
    rcases itoa_cases n hn0 hn1 with ⟨u, _, _, e⟩ | ⟨u, _, _, _, e⟩
    · obtain ⟨c, cs, ec, _⟩ := decDigits_head u
      rw [e, ec]; simp
    · rw [e]; simp
  have hD2 := Lib.itoa_length_le n hn0 hn1
  have hRl : RowIs w4 g 0 l := fun j hj => by
    have := RowIs.part (l := []) (m := l) (r := [32] ++ key.data.toList ++ [61] ++ Lib.itoa n) (by simpa using hrow) j hj
    simpa using this
  have hR32 : w4.cell? ⟨g, len, none⟩ = some (.int .u8 32) := by
    have := RowIs.part (l := l) (m := [32]) (r := key.data.toList ++ [61] ++ Lib.itoa n) (by simpa using hrow) 0 (by simp)
    rw [HLN.out] at this
    exact this
  have hRk : RowIs w4 g (len + 1) key.data.toList := by
    have := RowIs.part (l := l ++ [32]) (m := key.data.toList) (r := [61] ++ Lib.itoa n) (by simpa using hrow)
    rw [List.length_append, HLN.out] at this
    exact this
  have hK : key.data.toList.length = key.size := rfl
  have hR61 : w4.cell? ⟨g, len + 1 + key.size, none⟩ = some (.int .u8 61) := by
    have := RowIs.part (l := l ++ [32] ++ key.data.toList) (m := [61]) (r := Lib.itoa n) (by simpa using hrow) 0 (by simp)
    rw [List.length_append, List.length_append, HLN.out, hK] at this
    exact this
  have hRd : RowIs w4 g (len + 1 + key.size + 1) (Lib.itoa n) := by
    have := RowIs.part (l := l ++ [32] ++ key.data.toList ++ [61]) (m := Lib.itoa n) (r := []) (by simpa using hrow)
    rw [List.length_append, List.length_append, List.length_append, HLN.out, hK] at this
    exact this
  obtain ⟨D, hD⟩ : ∃ D, D = (Lib.itoa n).length := ⟨_, rfl⟩
  rw [← hD] at hD1 hD2 hN ⊢
  have HD := Lib.hid hD
  have HRL := Lib.hid hRl
  have HRK := Lib.hid hRk
  have HRD := Lib.hid hRd
  have HR61 := Lib.hid hR61
  have hs1 : SliceIs w4 (.slice (some ⟨g, 0, none⟩) len cap4) l := .inr ⟨g, 0, cap4, by rw [HLN.out], by rw [HLN.out]; omega, hRl⟩
  have H8 := Lib.hid (same8 _ _ l (by rw [HLN.out]; omega) w4 hs1 HS4.out)
  clear ho4 hb4 hrow hRl hRk hRd hR61 hK hD hs1 HS4 HS3 H7 HBOX HB03
  go_wp2_with fail
  refine H8.out.mono ?_
  rintro e w5 ⟨rfl, hw5⟩
  have hb5 := below_draws hw5
  have cell5 : ∀ {p : Addr} {v : Value}, w4.cell? p = some v → w5.cell? p = some v := fun hc => (hb5.cell (World.block_lt_of_cell? _ _ hc)).trans hc
  have hbox5 := cell5 hbox4
  have h32 := cell5 hR32
  have H61 := Lib.hid (cell5 HR61.out)
  have HK5 := Lib.hid (HRK.out.on hb5)
  have HD5 := Lib.hid (HRD.out.on hb5)
  have HB05 := Lib.hid (HB04.out.trans (hb5.mono HB04.out.size))
  clear hw5 hb5 cell5 hbox4 hR32 H8 HRL HRK HRD HR61 HB04
  go_wp2
  go_loop [11] (fun vj => ∃ k : Nat, vj = .int .i64 ((k + 1 : Nat) : Int) ∧ k ≤ key.size) (fun vj => key.size + 1 - (intOf vj).toNat)
  case atStart => exact ⟨0, rfl, Nat.zero_le _⟩
  case round =>
    obtain ⟨k, rfl, hk⟩ := hrel
    by_cases hkn : k < key.size
    · have hc : w5.cell? ⟨g, len + 1 + k, none⟩ = some (.int .u8 (key[k].toNat : Int)) := HK5.out k hkn
      have hc' : w5.cell? ⟨g, len + (k + 1), none⟩ = some (.int .u8 (key[k].toNat : Int)) := by
        rw [show len + (k + 1) = len + 1 + k by omega]; exact hc
      have hne : ((key[k].toNat : Int) != 61) = true := by
        rw [bne_iff_ne]
        intro e61
        have := has_yes (s := key) (k := k) hkn (by omega)
        rw [HNO.out] at this
        cases this
      clear hc
      go_wp2
      go_round
      case rel => exact ⟨k + 1, by go_num, by omega⟩
      case measure => simp [intOf]; omega
    · have hkk : k = key.size := by omega
      subst hkk
      have hc' : w5.cell? ⟨g, len + (key.size + 1), none⟩ = some (.int .u8 61) := by
        rw [show len + (key.size + 1) = len + 1 + key.size by omega]; exact H61.out
      have hlt : ((key.size : Int) + 1 == ((len + 1 + key.size + 1 + D - len : Nat) : Int)) = false := by
        simpa using (by omega : ¬ (key.size : Int) + 1 = ((len + 1 + key.size + 1 + D - len : Nat) : Int))
      go_wp2_with fail
      refine (same9_some g (len + 1) _ key (by omega) w5 HK5.out).mono ?_
      rintro e w6 ⟨rfl, hw6⟩
      have hb6 := below_draws hw6
      have hbox6 : w6.cell? ⟨w1.heap.size, 0, none⟩ = some (.int .i64 n) := (hb6.cell (World.block_lt_of_cell? _ _ hbox5)).trans hbox5
      have HD6 := Lib.hid (HD5.out.on hb6)
      have HB06 := Lib.hid (HB05.out.trans (hb6.mono HB05.out.size))
      clear hw6 hb6 hbox5 h32 H61 HK5 HD5 HB05 hc' hlt
      go_wp2_with fail
      refine (dec10 n hn0 hn1 _ _ (.inr ⟨g, len + 1 + key.size + 1, _, slice_eq (by omega) (by rw [← HD.out]; omega), by rw [← HD.out]; omega, HD6.out⟩)).mono ?_
      rintro e w7 ⟨rfl, rfl⟩
      go_wp2
      go_ret
      exact ⟨by simp, HB06.out⟩
end Go.Proofs.Qxb6601573aDoor
