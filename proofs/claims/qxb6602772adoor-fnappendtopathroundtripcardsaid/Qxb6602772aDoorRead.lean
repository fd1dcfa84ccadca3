/-
  readIndex where a canonical index is written.
-/
import Derived.Test.Qxb6602772aDoorSmall
namespace Go.Proofs.Qxb6602772aDoor
open Go.RowKit Go.Lib

set_option maxHeartbeats 4000000 in
theorem read7_core (g L cap pos u D : Nat) (ds : List UInt8) (hD : ds.length = D) (h1 : 1 ≤ D) (hD64 : D ≤ 64) (hL : pos + 1 + D + 1 ≤ L) (hlim : L ≤ 1073741824) (w : World)
    (c91 : w.cell? ⟨g, pos, none⟩ = some (.int .u8 91)) (hd : ∀ k (hk : k < ds.length), w.cell? ⟨g, pos + 1 + k, none⟩ = some (.int .u8 (ds[k].toNat : Int))) (c93 : w.cell? ⟨g, pos + 1 + D, none⟩ = some (.int .u8 93))
    (hdig : ∀ c ∈ ds, 48 ≤ c.toNat ∧ c.toNat ≤ 57) (hF : decF 0 ds = u) (hu : u ≤ 9223372036854775807) (c0 : UInt8) (hc0 : w.cell? ⟨g, pos + 1, none⟩ = some (.int .u8 (c0.toNat : Int))) (hz : c0.toNat = 48 → D = 1) :
    Calls Tryd.prog 7 #[.slice (some ⟨g, 0, none⟩) L cap, .int .i64 (pos : Int)] w fun e w' => e = .returned (.tuple #[.int .u64 (u : Int), .int .i64 ((pos + 1 + D + 1 : Nat) : Int), .bool true]) ∧ w' = w := by
  have HR := Lib.hid hd
  have HL := Lib.hid hD
  have HD := Lib.hid hdig
  have HF := Lib.hid hF
  have HC0 := Lib.hid hc0
  have H93 := Lib.hid c93
  have HZ := Lib.hid hz
  clear hd hD hdig hF hc0 c93 hz
  have hi0 : (pos : Int) < (L : Int) := by omega
  go_enter Tryd.func7, Tryd.ntmps7
  go_wp2
  clear c91
  go_loop [1, 8] (fun vp vv => ∃ (k acc : Nat) (a : Int), vp = .int .i64 ((pos + 1 + k : Nat) : Int) ∧ vv = .int .u64 a ∧ k ≤ D ∧ Hid (a = (acc : Int) ∧ decF acc (ds.drop k) = u)) (fun vp _ => L - (intOf vp).toNat)
  case atStart => exact ⟨0, 0, 0, by go_num, rfl, by omega, rfl, HF.out⟩
  case round =>
    obtain ⟨k, acc, a, rfl, rfl, hk, hh⟩ := hrel
    obtain ⟨ha, hdec⟩ := hh.out
    clear hh
    have hbl := HL.out
    by_cases hkn : k < D
    · have hc := HR.out k (by omega)
      obtain ⟨g1, g2, g3, g4⟩ := dec_step (by omega) hdec HD.out
      generalize (ds[k]'(by omega)) = c at hc g1 g2 g3 g4
      have HN : Hid (a * 10 + ((c.toNat : Int) - 48) = ((acc * 10 + (c.toNat - 48) : Nat) : Int) ∧ decF (acc * 10 + (c.toNat - 48)) (ds.drop (k + 1)) = u) := Lib.hid ⟨by omega, g4⟩
      have a0 : 0 ≤ a := by omega
      have a1 : a ≤ 922337203685477580 := by omega
      have a2 : a * 10 + ((c.toNat : Int) - 48) ≤ 9223372036854775808 := by omega
      have hi : (pos : Int) + 1 + (k : Int) < (L : Int) := by omega
      clear hdec ha hbl g3 g4
      go_wp2
      exact ⟨⟨.int .i64 ((pos : Int) + 1 + ((k + 1 : Nat) : Int)), _, _, _, _, ⟨k + 1, rfl, _, _, rfl, by omega, HN⟩, by go_num, rfl, rfl, rfl, rfl⟩, by simp [intOf]; omega⟩
    · have hF : decF acc (ds.drop k) = acc := by rw [List.drop_eq_nil_of_le (by omega), decF_nil]
      rw [hF] at hdec
      subst hdec
      subst ha
      have hkk : k = D := by omega
      subst hkk
      clear hbl hF
      have hi : (pos : Int) + 1 + (k : Int) < (L : Int) := by omega
      have c93 := H93.out
      have hc0 := HC0.out
      by_cases hk1 : 1 < k
      · have h48 : ((c0.toNat : Int) == 48) = false := by
          simpa using (by
            intro e
            have := HZ.out (by omega)
            omega : ¬ (c0.toNat : Int) = 48)
        go_wp2
        go_ret3
        exact ⟨rfl, rfl⟩
      · go_wp2
        go_ret3
        exact ⟨rfl, rfl⟩

/-- A part of a row. -/
theorem RowIs.part {w : World} {b : Nat} {l m r : List UInt8} (h : RowIs w b 0 (l ++ m ++ r)) : RowIs w b l.length m := fun j hj => by
  have := h (l.length + j) (by simp; omega)
  rw [Nat.zero_add] at this
  rw [this]
  congr 3
  rw [List.getElem_append_left (by simp; omega), List.getElem_append_right (by omega)]
  congr 1
  simp

/-- readIndex at an index step's place. -/
theorem read7 (g L cap u : Nat) (pre r : List UInt8) (hu : u ≤ 9223372036854775807) (hlim : L ≤ 1073741824) (w : World) (hL : (pre ++ ([91] ++ decDigits u ++ [93]) ++ r).length = L) (h : RowIs w g 0 (pre ++ ([91] ++ decDigits u ++ [93]) ++ r)) :
    Calls Tryd.prog 7 #[.slice (some ⟨g, 0, none⟩) L cap, .int .i64 (pre.length : Int)] w fun e w' => e = .returned (.tuple #[.int .u64 (u : Int), .int .i64 ((pre.length + ([91] ++ decDigits u ++ [93]).length : Nat) : Int), .bool true]) ∧ w' = w := by
  have hd := decDigits_digit u
  have hF := decF_decDigits u
  obtain ⟨c, cs, ec, hc⟩ := decDigits_head u
  have hlen : (decDigits u).length ≤ 21 := by
    have := itoa_length_le (u : Int) (by omega) (by omega)
    rw [itoa_nat _ (by omega)] at this
    simpa using this
  have h1 : 1 ≤ (decDigits u).length := by rw [ec]; simp
  have c91 : w.cell? ⟨g, pre.length, none⟩ = some (.int .u8 91) := RowIs.part (l := pre) (m := [91]) (r := decDigits u ++ [93] ++ r) (by simpa using h) 0 (by simp)
  have hds : RowIs w g (pre.length + 1) (decDigits u) := by
    have := RowIs.part (l := pre ++ [91]) (m := decDigits u) (r := [93] ++ r) (by simpa using h)
    rw [List.length_append] at this
    exact this
  have c93 : w.cell? ⟨g, pre.length + 1 + (decDigits u).length, none⟩ = some (.int .u8 93) := by
    have := RowIs.part (l := pre ++ [91] ++ decDigits u) (m := [93]) (r := r) (by simpa using h) 0 (by simp)
    rw [List.length_append, List.length_append] at this
    exact this
  have hc0 : w.cell? ⟨g, pre.length + 1, none⟩ = some (.int .u8 (c.toNat : Int)) := by
    have := hds 0 (by omega)
    simp only [ec, List.getElem_cons_zero, Nat.add_zero] at this
    exact this
  have := read7_core g L cap pre.length u (decDigits u).length (decDigits u) rfl h1 (by omega) (by rw [← hL]; simp; omega) hlim w c91 hds c93 hd hF hu c hc0 (by
    intro h48
    have hu0 : u = 0 := by
      by_cases hh : 1 ≤ u
      · exact absurd h48 (hc hh)
      · omega
    rw [hu0, decDigits_zero]
    rfl)
  have e : pre.length + ([91] ++ decDigits u ++ [93]).length = pre.length + 1 + (decDigits u).length + 1 := by simp; omega
  rw [e]
  exact this
end Go.Proofs.Qxb6602772aDoor
