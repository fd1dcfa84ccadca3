/-
  parseDec at the numeral of an int64.
-/
import Derived.Test.Qxb6601573aDoorSmall
namespace Go.Proofs.Qxb6601573aDoor
open Go.RowKit Go.Lib

theorem compl_u64 (n : Nat) (h : n < 18446744073709551616) : bits .xor .u64 IntKind.u64.max (n : Int) = ((18446744073709551615 - n : Nat) : Int) := by
  have e1 : IntKind.u64.max = ((18446744073709551615 : Nat) : Int) := rfl
  have e3 : BitVec.ofNat 64 18446744073709551615 = BitVec.allOnes 64 := by decide
  have e2 : (BitVec.ofInt 64 IntKind.u64.max ^^^ BitVec.ofInt 64 (n : Int)).toNat = 18446744073709551615 - n := by
    rw [e1, BitVec.ofInt_natCast, BitVec.ofInt_natCast, e3, BitVec.allOnes_xor, BitVec.toNat_not, BitVec.toNat_ofNat, Nat.mod_eq_of_lt (by simpa using h)]
  show IntKind.u64.wrap (((BitVec.ofInt 64 IntKind.u64.max ^^^ BitVec.ofInt 64 (n : Int)).toNat : Nat) : Int) = _
  rw [e2, IntKind.wrap_u64]
  omega
theorem neg_back (n : Nat) (h1 : 1 ≤ n) (h : n ≤ 9223372036854775808) : wrap64 (IntKind.u64.wrap (bits .xor .u64 IntKind.u64.max (n : Int) + 1)) = -(n : Int) := by
  rw [compl_u64 n (by omega), IntKind.wrap_u64]
  unfold wrap64
  omega

set_option maxHeartbeats 2000000 in
theorem dec_pos (b o len cap u : Nat) (bs : List UInt8) (hl : bs.length = len) (h1 : 1 ≤ len) (hlim : len ≤ 64) (w : World) (hr : ∀ k (hk : k < bs.length), w.cell? ⟨b, o + k, none⟩ = some (.int .u8 (bs[k].toNat : Int))) (hu : u ≤ 9223372036854775807) (hd : ∀ c ∈ bs, 48 ≤ c.toNat ∧ c.toNat ≤ 57) (hF : decF 0 bs = u)
    (c0 : UInt8) (hc0 : w.cell? ⟨b, o, none⟩ = some (.int .u8 (c0.toNat : Int))) (hc48 : 48 ≤ c0.toNat) (hz : c0.toNat = 48 → len = 1) :
    Calls Tryd.prog 10 #[.slice (some ⟨b, o, none⟩) len cap] w fun e w' => e = .returned (.tuple #[.int .i64 (u : Int), .bool true]) ∧ w' = w := by
  have HR := Lib.hid hr
  have HL := Lib.hid hl
  have HD := Lib.hid hd
  have HF := Lib.hid hF
  clear hr hl hd hF
  have hn0 : ((len : Int) == 0) = false := by simpa using (by omega : ¬ (len : Int) = 0)
  have hn1 : ((0 : Int) == (len : Int)) = false := by simpa using (by omega : ¬ (0 : Int) = (len : Int))
  have h45 : ((c0.toNat : Int) == 45) = false := by simpa using (by omega : ¬ (c0.toNat : Int) = 45)
  have hi0 : (0 : Int) < (len : Int) := by omega
  by_cases h48 : c0.toNat = 48
  · have hb48 : ((c0.toNat : Int) == 48) = true := by simpa using (by omega : (c0.toNat : Int) = 48)
    have hle : (len : Int) ≤ 1 := by have := hz h48; omega
    clear hz h48
    go_enter Tryd.func10, Tryd.ntmps10
    go_wp2
    go_loop [4, 6] (fun vi vm => ∃ (k acc : Nat) (a : Int), vi = .int .i64 (k : Int) ∧ vm = .int .u64 a ∧ k ≤ len ∧ Hid (a = (acc : Int) ∧ decF acc (bs.drop k) = u)) (fun vi _ => len - (intOf vi).toNat)
    case atStart => exact ⟨0, 0, 0, rfl, rfl, by omega, rfl, HF.out⟩
    case round =>
      obtain ⟨k, acc, a, rfl, rfl, hk, hh⟩ := hrel
      obtain ⟨ha, hdec⟩ := hh.out
      clear hh
      have hbl := HL.out
      by_cases hkn : k < len
      · have hc := HR.out k (by omega)
        obtain ⟨g1, g2, g3, g4⟩ := dec_step (by omega) hdec HD.out
        generalize (bs[k]'(by omega)) = c at hc g1 g2 g3 g4
        have HN : Hid (a * 10 + ((c.toNat : Int) - 48) = ((acc * 10 + (c.toNat - 48) : Nat) : Int) ∧ decF (acc * 10 + (c.toNat - 48)) (bs.drop (k + 1)) = u) := Lib.hid ⟨by omega, g4⟩
        have a0 : 0 ≤ a := by omega
        have a1 : a ≤ 922337203685477580 := by omega
        have a2 : a * 10 + ((c.toNat : Int) - 48) ≤ 9223372036854775808 := by omega
        have hi : (k : Int) < (len : Int) := by omega
        clear hdec ha hbl g3 g4
        go_wp2
        go_round
        case rel => exact ⟨k + 1, acc * 10 + (c.toNat - 48), _, by go_num, rfl, by omega, HN⟩
        case measure => simp [intOf]; omega
      · have hF : decF acc (bs.drop k) = acc := by rw [List.drop_eq_nil_of_le (by omega), decF_nil]
        rw [hF] at hdec
        subst hdec
        subst ha
        clear hbl hF
        go_wp2
        go_ret2
        exact ⟨rfl, rfl⟩
  · have hb48 : ((c0.toNat : Int) == 48) = false := by simpa using (by omega : ¬ (c0.toNat : Int) = 48)
    clear hz h48
    go_enter Tryd.func10, Tryd.ntmps10
    go_wp2
    go_loop [4, 6] (fun vi vm => ∃ (k acc : Nat) (a : Int), vi = .int .i64 (k : Int) ∧ vm = .int .u64 a ∧ k ≤ len ∧ Hid (a = (acc : Int) ∧ decF acc (bs.drop k) = u)) (fun vi _ => len - (intOf vi).toNat)
    case atStart => exact ⟨0, 0, 0, rfl, rfl, by omega, rfl, HF.out⟩
    case round =>
      obtain ⟨k, acc, a, rfl, rfl, hk, hh⟩ := hrel
      obtain ⟨ha, hdec⟩ := hh.out
      clear hh
      have hbl := HL.out
      by_cases hkn : k < len
      · have hc := HR.out k (by omega)
        obtain ⟨g1, g2, g3, g4⟩ := dec_step (by omega) hdec HD.out
        generalize (bs[k]'(by omega)) = c at hc g1 g2 g3 g4
        have HN : Hid (a * 10 + ((c.toNat : Int) - 48) = ((acc * 10 + (c.toNat - 48) : Nat) : Int) ∧ decF (acc * 10 + (c.toNat - 48)) (bs.drop (k + 1)) = u) := Lib.hid ⟨by omega, g4⟩
        have a0 : 0 ≤ a := by omega
        have a1 : a ≤ 922337203685477580 := by omega
        have a2 : a * 10 + ((c.toNat : Int) - 48) ≤ 9223372036854775808 := by omega
        have hi : (k : Int) < (len : Int) := by omega
        clear hdec ha hbl g3 g4
        go_wp2
        go_round
        case rel => exact ⟨k + 1, acc * 10 + (c.toNat - 48), _, by go_num, rfl, by omega, HN⟩
        case measure => simp [intOf]; omega
      · have hF : decF acc (bs.drop k) = acc := by rw [List.drop_eq_nil_of_le (by omega), decF_nil]
        rw [hF] at hdec
        subst hdec
        subst ha
        clear hbl hF
        go_wp2
        go_ret2
        exact ⟨rfl, rfl⟩

set_option maxHeartbeats 2000000 in
theorem dec_neg (b o len cap u : Nat) (bs : List UInt8) (hl : bs.length + 1 = len) (h1 : 2 ≤ len) (hlim : len ≤ 64) (w : World) (hr : ∀ k (hk : k < bs.length), w.cell? ⟨b, o + (k + 1), none⟩ = some (.int .u8 (bs[k].toNat : Int))) (hu1 : 1 ≤ u) (hu : u ≤ 9223372036854775808) (hd : ∀ c ∈ bs, 48 ≤ c.toNat ∧ c.toNat ≤ 57) (hF : decF 0 bs = u)
    (hc0 : w.cell? ⟨b, o, none⟩ = some (.int .u8 45)) (c1 : UInt8) (hc1 : w.cell? ⟨b, o + 1, none⟩ = some (.int .u8 (c1.toNat : Int))) (hz : ¬ c1.toNat = 48) :
    Calls Tryd.prog 10 #[.slice (some ⟨b, o, none⟩) len cap] w fun e w' => e = .returned (.tuple #[.int .i64 (-(u : Int)), .bool true]) ∧ w' = w := by
  have HR := Lib.hid hr
  have HL := Lib.hid hl
  have HD := Lib.hid hd
  have HF := Lib.hid hF
  clear hr hl hd hF
  have hn0 : ((len : Int) == 0) = false := by simpa using (by omega : ¬ (len : Int) = 0)
  have hn1 : ((1 : Int) == (len : Int)) = false := by simpa using (by omega : ¬ (1 : Int) = (len : Int))
  have hi0 : (1 : Int) < (len : Int) := by omega
  have hb48 : ((c1.toNat : Int) == 48) = false := by simpa using (by omega : ¬ (c1.toNat : Int) = 48)
  clear hz
  go_enter Tryd.func10, Tryd.ntmps10
  go_wp2
  go_loop [4, 6] (fun vi vm => ∃ (k acc : Nat) (a : Int), vi = .int .i64 ((k + 1 : Nat) : Int) ∧ vm = .int .u64 a ∧ k + 1 ≤ len ∧ Hid (a = (acc : Int) ∧ decF acc (bs.drop k) = u)) (fun vi _ => len - (intOf vi).toNat)
  case atStart => exact ⟨0, 0, 0, rfl, rfl, by omega, rfl, HF.out⟩
  case round =>
    obtain ⟨k, acc, a, rfl, rfl, hk, hh⟩ := hrel
    obtain ⟨ha, hdec⟩ := hh.out
    clear hh
    have hbl := HL.out
    by_cases hkn : k + 1 < len
    · have hc := HR.out k (by omega)
      obtain ⟨g1, g2, g3, g4⟩ := dec_step (by omega) hdec HD.out
      generalize (bs[k]'(by omega)) = c at hc g1 g2 g3 g4
      have HN : Hid (a * 10 + ((c.toNat : Int) - 48) = ((acc * 10 + (c.toNat - 48) : Nat) : Int) ∧ decF (acc * 10 + (c.toNat - 48)) (bs.drop (k + 1)) = u) := Lib.hid ⟨by omega, g4⟩
      have a0 : 0 ≤ a := by omega
      have a1 : a ≤ 922337203685477580 := by omega
      have a2 : a * 10 + ((c.toNat : Int) - 48) ≤ 9223372036854775808 := by omega
      have hi : (k : Int) + 1 < (len : Int) := by omega
      clear hdec ha hbl g3 g4
      go_wp2
      go_round
      case rel => exact ⟨k + 1, acc * 10 + (c.toNat - 48), _, by go_num, rfl, by omega, HN⟩
      case measure => simp [intOf]; omega
    · have hF : decF acc (bs.drop k) = acc := by rw [List.drop_eq_nil_of_le (by omega), decF_nil]
      rw [hF] at hdec
      subst hdec
      subst ha
      clear hbl hF
      go_wp2
      go_ret2
      exact ⟨by rw [neg_back acc hu1 hu]; rfl, rfl⟩

/-- parseDec reads back what AppendInt wrote. -/
theorem dec10 (n : Int) (h0 : -9223372036854775808 ≤ n) (h1 : n ≤ 9223372036854775807) (v : Value) (w : World) (h : SliceIs w v (itoa n)) :
    Calls Tryd.prog 10 #[v] w fun e w' => e = .returned (.tuple #[.int .i64 n, .bool true]) ∧ w' = w := by
  have hlen := itoa_length_le n h0 h1
  rcases itoa_cases n h0 h1 with ⟨u, rfl, hu, e⟩ | ⟨u, rfl, hu1, hu, e⟩
  · rw [e] at h hlen
    obtain ⟨c, cs, ec, hc⟩ := decDigits_head u
    have hd := decDigits_digit u
    have hF := decF_decDigits u
    rcases h with ⟨hn, _⟩ | ⟨b, o, cap, rfl, _, hr⟩
    · rw [ec] at hn; cases hn
    · have hl1 : 1 ≤ (decDigits u).length := by rw [ec]; simp
      have hc0 : w.cell? ⟨b, o, none⟩ = some (.int .u8 (c.toNat : Int)) := by
        have := hr 0 (by omega)
        simp only [ec, List.getElem_cons_zero, Nat.add_zero] at this
        exact this
      refine dec_pos b o _ cap u (decDigits u) rfl hl1 (by omega) w hr hu hd hF c hc0 (hd c (by rw [ec]; simp)).1 ?_
      intro h48
      have hu0 : u = 0 := by
        by_cases hh : 1 ≤ u
        · exact absurd h48 (hc hh)
        · omega
      rw [hu0, decDigits_zero]
      rfl
  · rw [e] at h hlen
    obtain ⟨c, cs, ec, hc⟩ := decDigits_head u
    have hd := decDigits_digit u
    have hF := decF_decDigits u
    rcases h with ⟨hn, _⟩ | ⟨b, o, cap, rfl, _, hr⟩
    · cases hn
    · have hl1 : 1 ≤ (decDigits u).length := by rw [ec]; simp
      have hc0 : w.cell? ⟨b, o, none⟩ = some (.int .u8 45) := hr 0 (by simp)
      have hr' : ∀ k (hk : k < (decDigits u).length), w.cell? ⟨b, o + (k + 1), none⟩ = some (.int .u8 ((decDigits u)[k].toNat : Int)) := fun k hk => hr (k + 1) (by simpa using hk)
      have hc1 : w.cell? ⟨b, o + 1, none⟩ = some (.int .u8 (c.toNat : Int)) := by
        have := hr' 0 (by omega)
        simp only [ec, List.getElem_cons_zero, Nat.zero_add] at this
        exact this
      exact dec_neg b o _ cap u (decDigits u) (by simp) (by simp; omega) (by omega) w hr' hu1 hu hd hF hc0 c hc1 (hc hu1)
end Go.Proofs.Qxb6601573aDoor
