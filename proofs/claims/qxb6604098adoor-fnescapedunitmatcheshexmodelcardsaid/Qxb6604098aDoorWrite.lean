/-
  The walk of FnEscapedUnitReadsTheUnitThatWasWritten.
-/
import Derived.Test.Qxb6604098aDoorEsc
import Derived.Below
import Derived.WalkSmall
namespace Go.Proofs.Qxb6604098aDoor
open Go.RowKit

/-- One hexadecimal digit as it is written. -/
def hexD (d : Nat) (up : Bool) : UInt8 := if d < 10 then UInt8.ofNat (48 + d) else if up then UInt8.ofNat (55 + d) else UInt8.ofNat (87 + d)

theorem hexD_lt {d : Nat} {up : Bool} (h : d < 10) : ((hexD d up).toNat : Int) = 48 + (d : Int) := by
  unfold hexD; rw [if_pos h, UInt8.toNat_ofNat']; omega
theorem hexD_up {d : Nat} (h : ¬ d < 10) (h2 : d < 16) : ((hexD d true).toNat : Int) = 55 + (d : Int) := by
  unfold hexD; rw [if_neg h, if_pos rfl, UInt8.toNat_ofNat']; omega
theorem hexD_lo {d : Nat} (h : ¬ d < 10) (h2 : d < 16) : ((hexD d false).toNat : Int) = 87 + (d : Int) := by
  unfold hexD; rw [if_neg h, if_neg (by decide), UInt8.toNat_ofNat']; omega

theorem ret_u8 {a b : Int} (h : a = b) : Ending.returned (.int .u8 a) = .returned (.int .u8 b) := by rw [h]

set_option maxHeartbeats 400000 in
theorem hexDigit9 (d : Nat) (up : Bool) (h : d < 16) (w : World) :
    Calls Tryd.prog 9 #[.int .i64 (d : Int), .bool up] w fun e w' => e = .returned (.int .u8 ((hexD d up).toNat : Int)) ∧ w' = w := by
  by_cases h10 : d < 10
  · have E := Lib.hid (hexD_lt (up := up) h10)
    go_enter Tryd.func9, Tryd.ntmps9
    go_wp2
    go_ret
    exact ⟨ret_u8 E.out.symm, rfl⟩
  · cases up
    · have E := Lib.hid (hexD_lo h10 h)
      go_enter Tryd.func9, Tryd.ntmps9
      go_wp2
      go_ret
      exact ⟨ret_u8 (by rw [E.out]; omega), rfl⟩
    · have E := Lib.hid (hexD_up h10 h)
      go_enter Tryd.func9, Tryd.ntmps9
      go_wp2
      go_ret
      exact ⟨ret_u8 (by rw [E.out]; omega), rfl⟩

set_option maxHeartbeats 400000 in
theorem bytes8_yes (u : Int) (up : Bool) (a : Option Addr) (len cap : Nat) (h : len ≤ 1048576) (w : World) :
    Calls Tryd.prog 8 #[.int .u16 u, .bool up, .slice a len cap] w fun e w' => e = .returned (.bool true) ∧ w' = w := by
  go_enter Tryd.func8, Tryd.ntmps8
  go_wp2
  go_ret
  exact ⟨rfl, rfl⟩

set_option maxHeartbeats 400000 in
theorem bytes8_no (u : Int) (up : Bool) (a : Option Addr) (len cap : Nat) (h : ¬ len ≤ 1048576) (w : World) :
    Calls Tryd.prog 8 #[.int .u16 u, .bool up, .slice a len cap] w fun e w' => e = .returned (.bool false) ∧ w' = w := by
  go_enter Tryd.func8, Tryd.ntmps8
  go_wp2
  go_ret
  exact ⟨rfl, rfl⟩

theorem Tryd.info5 : (Tryd.prog.info? 5).map (fun i => (i.zero, i.size, i.bytes)) = some (some (.int .u8 0), 1, 1) := by kernel_rfl

/-- The four digits of a number below 65536, as the Go text reckons them. -/
theorem digits4 (n : Nat) (hn : n < 65536) : ∃ d1 d2 d3 d4 : Nat, d1 < 16 ∧ d2 < 16 ∧ d3 < 16 ∧ d4 < 16 ∧ n = d1 * 4096 + d2 * 256 + d3 * 16 + d4 ∧
    bits .and .i64 ((n : Int) / 4096) 15 = (d1 : Int) ∧ bits .and .i64 ((n : Int) / 256) 15 = (d2 : Int) ∧ bits .and .i64 ((n : Int) / 16) 15 = (d3 : Int) ∧ bits .and .i64 (n : Int) 15 = (d4 : Int) := by
  have m : ∀ x : Int, 0 ≤ x → x < 65536 → bits .and .i64 x 15 = x % 16 := fun x h0 h1 =>
    bits_mask .i64 16 (by decide) (fun n h0 h1 => by rw [IntKind.wrap_i64]; omega) 4 (by omega) x h0 (by omega)
  refine ⟨n / 4096, n / 256 % 16, n / 16 % 16, n % 16, by omega, by omega, by omega, by omega, by omega, ?_, ?_, ?_, ?_⟩
  · rw [m _ (by omega) (by omega)]; omega
  · rw [m _ (by omega) (by omega)]; omega
  · rw [m _ (by omega) (by omega)]; omega
  · rw [m _ (by omega) (by omega)]; omega

theorem hexV_hexD : ∀ d : Nat, d < 16 → hexV (hexD d true) = some d ∧ hexV (hexD d false) = some d := by decide +kernel
theorem hexV_D (d : Nat) (up : Bool) (h : d < 16) : hexV (hexD d up) = some d := by
  cases up
  · exact (hexV_hexD d h).2
  · exact (hexV_hexD d h).1

/-- The escape that is written is read back. -/
theorem esc_written (n d1 d2 d3 d4 : Nat) (up : Bool) (l : List UInt8) (hd1 : d1 < 16) (hd2 : d2 < 16) (hd3 : d3 < 16) (hd4 : d4 < 16) (hn : n = d1 * 4096 + d2 * 256 + d3 * 16 + d4) :
    escOf (92 :: 117 :: hexD d1 up :: hexD d2 up :: hexD d3 up :: hexD d4 up :: l) = some n := by
  have e : escOf (92 :: 117 :: hexD d1 up :: hexD d2 up :: hexD d3 up :: hexD d4 up :: l) = hexF 0 [hexD d1 up, hexD d2 up, hexD d3 up, hexD d4 up] := by simp [escOf]
  rw [e, hexF_some (hexV_D d1 up hd1), hexF_some (hexV_D d2 up hd2), hexF_some (hexV_D d3 up hd3), hexF_some (hexV_D d4 up hd4)]
  simp only [hexF]
  congr 1
  omega

/-- What the walk is told of the tail: its cells are the bytes l. -/
def TailIs (w : World) (a : Option Addr) (len cap : Nat) (l : List UInt8) : Prop :=
  l.length = len ∧ (a = none → len = 0 ∧ cap = 0) ∧ ∀ ad, a = some ad → ∀ j u, (l.map fun c => Value.int .u8 (c.toNat : Int))[j]? = some u → w.cell? (ad.add j) = some u

theorem TailIs.on {w w' : World} {a : Option Addr} {len cap : Nat} {l : List UInt8} (h : TailIs w a len cap l) (hb : Below w.heap.size w w') : TailIs w' a len cap l :=
  ⟨h.1, h.2.1, fun ad e j u hu => by
    have hc := h.2.2 ad e j u hu
    exact (hb.cell (World.block_lt_of_cell? w _ hc)).trans hc⟩

theorem bytes_oneCell (l : List UInt8) : ∀ u ∈ (l.map fun c => Value.int .u8 (c.toNat : Int)), u.oneCell' = true := by
  intro u hu
  obtain ⟨c, _, rfl⟩ := List.mem_map.1 hu
  rfl

/-- A row of bytes that the call owns, as the callee asks it. -/
theorem sliceIs_of_owns {w : World} {B g n cap : Nat} {xs : List Value} {l : List UInt8} (h : w.ownsRow B 5 1 (.slice (some ⟨g, 0, none⟩) n cap) n xs) (hx : xs = l.map fun c => Value.int .u8 (c.toNat : Int)) :
    SliceIs w (.slice (some ⟨g, 0, none⟩) n cap) l := by
  have hl : l.length = n := by
    have := h.1
    rw [hx, List.length_map] at this
    omega
  have hcap : n ≤ cap := by
    rcases h.2 with ⟨e, _⟩ | ⟨g', cap', cur, e, _, _, hn, _⟩
    · cases e
    · cases e; exact hn
  subst hl
  refine .inr ⟨g, 0, cap, rfl, hcap, fun j hj => ?_⟩
  have := h.cellAt j (by omega)
  rw [Nat.zero_add, this, hx, List.getElem?_map, List.getElem?_eq_getElem hj]
  rfl

set_option maxHeartbeats 1000000 in
theorem write_walk (n d1 d2 d3 d4 : Nat) (up : Bool) (a : Option Addr) (len cap : Nat) (l : List UInt8) (hn : n < 65536) (hd1 : d1 < 16) (hd2 : d2 < 16) (hd3 : d3 < 16) (hd4 : d4 < 16)
    (e1 : bits .and .i64 ((n : Int) / 4096) 15 = (d1 : Int)) (e2 : bits .and .i64 ((n : Int) / 256) 15 = (d2 : Int)) (e3 : bits .and .i64 ((n : Int) / 16) 15 = (d3 : Int)) (e4 : bits .and .i64 (n : Int) 15 = (d4 : Int))
    (HN : Hid (n = d1 * 4096 + d2 * 256 + d3 * 16 + d4)) (h : len ≤ 1048576) (w : World) (HT : Hid (TailIs w a len cap l)) (tp : TypeId) (p : Value) (HV : Hid (w.cell? ⟨0, 0, none⟩ = some (.iface tp p))) :
    Calls Tryd.prog 4 #[.int .u16 (n : Int), .bool up, .slice a len cap] w fun e w' => e = .returned (.bool true) ∧ Below w.heap.size w w' := by
  obtain ⟨i, hi, hz0, hz1, hz2⟩ := info_parts Tryd.info5
  go_enter Tryd.func4, Tryd.ntmps4
  go_wp2_with fail
  refine (bytes8_yes _ _ _ _ _ h _).mono ?_
  rintro e w0 ⟨rfl, rfl⟩
  go_wp2_with (at_make; refine wpList_make_own _ rfl _ _ 22 rfl w0.heap.size 5 i _ 1 Tryd.underlying22 hi hz0 hz1 _ _ _ (6 + len) rfl rfl (by omega) (by rw [hz2]; omega) (by unfold maxLen; omega) (Nat.le_refl _) ?_)
  intro w1 hown1 hg1
  have hb1 : Below w0.heap.size w0 w1 := (Below.refl _ _).grown hg1 (Nat.le_refl _) (fun k hk => by cases hk)
  go_wp2_with (at_builtin; go_must (refine wpList_append_fits _ rfl _ _ 22 rfl w0.heap.size 5 i 1 Tryd.underlying22 hi hz1 _ _ _ _ rfl (hown1.alloc _) _ _ _ [.int .u8 92, .int .u8 117] rfl rfl (cell_two_new _ _ _ _) (by simp [Value.oneCell']) (by omega) ?_))
  intro w2 hown2 hg2
  have hb2 : Below w0.heap.size w0 w2 := (hb1.alloc hb1.size _).grown hg2 (by simp; have := hb1.size; omega) (fun k hk => by cases hk; omega)
  clear hown1 hg1 hg2 hb1
  go_wp2_with fail
  refine (hexDigit9 d1 up hd1 _).mono ?_
  rintro e w2' ⟨rfl, rfl⟩
  go_wp2_with fail
  refine (hexDigit9 d2 up hd2 _).mono ?_
  rintro e w2'' ⟨rfl, rfl⟩
  go_wp2_with (at_builtin; go_must (refine wpList_append_fits _ rfl _ _ 22 rfl w0.heap.size 5 i 1 Tryd.underlying22 hi hz1 _ _ _ _ rfl (hown2.alloc _) _ _ _ [.int .u8 ((hexD d1 up).toNat : Int), .int .u8 ((hexD d2 up).toNat : Int)] rfl rfl (cell_two_new _ _ _ _) (by simp [Value.oneCell']) (by omega) ?_))
  intro w3 hown3 hg3
  have hb3 : Below w0.heap.size w0 w3 := (hb2.alloc hb2.size _).grown hg3 (by simp; have := hb2.size; omega) (fun k hk => by cases hk; omega)
  clear hown2 hg3 hb2
  go_wp2_with fail
  refine (hexDigit9 d3 up hd3 _).mono ?_
  rintro e w3' ⟨rfl, rfl⟩
  go_wp2_with fail
  refine (hexDigit9 d4 up hd4 _).mono ?_
  rintro e w3'' ⟨rfl, rfl⟩
  go_wp2_with (at_builtin; go_must (refine wpList_append_fits _ rfl _ _ 22 rfl w0.heap.size 5 i 1 Tryd.underlying22 hi hz1 _ _ _ _ rfl (hown3.alloc _) _ _ _ [.int .u8 ((hexD d3 up).toNat : Int), .int .u8 ((hexD d4 up).toNat : Int)] rfl rfl (cell_two_new _ _ _ _) (by simp [Value.oneCell']) (by omega) ?_))
  intro w4 hown4 hg4
  have hb4 : Below w0.heap.size w0 w4 := (hb3.alloc hb3.size _).grown hg4 (by simp; have := hb3.size; omega) (fun k hk => by cases hk; omega)
  clear hown3 hg4 hb3
  have HT4 : Hid (TailIs w4 a len cap l) := HT.out.on hb4
  go_wp2_with (at_builtin; go_must (refine wpList_append_fits_any _ rfl _ _ 22 rfl w0.heap.size 5 i 1 Tryd.underlying22 hi hz1 _ _ _ _ rfl hown4 _ _ _ (l.map fun c => Value.int .u8 (c.toNat : Int)) rfl (by rw [List.length_map, HT4.out.1]; omega) HT4.out.2.1 HT4.out.2.2 (bytes_oneCell l) (by omega) ?_))
  intro w5 hown5 hg5
  have hb5 : Below w0.heap.size w0 w5 := hb4.grown hg5 hb4.size (fun k hk => by cases hk; omega)
  clear hown4 hg5 hb4
  go_wp2_with fail
  have hs := sliceIs_of_owns (l := 92 :: 117 :: hexD d1 up :: hexD d2 up :: hexD d3 up :: hexD d4 up :: l) hown5 rfl
  have hv5 : w5.cell? ⟨0, 0, none⟩ = some (.iface tp p) := (hb5.cell (show (⟨0, 0, none⟩ : Addr).block < w0.heap.size from World.block_lt_of_cell? w0 _ HV.out)).trans HV.out
  have hz := zz6 _ _ tp p w5 hs hv5
  rw [esc_written n d1 d2 d3 d4 up l hd1 hd2 hd3 hd4 HN.out] at hz
  clear hown5 hs hv5
  refine hz.mono ?_
  rintro e w6 ⟨rfl, hb6⟩
  simp only [escV]
  go_wp2
  go_ret
  exact ⟨by simp, hb5.trans (hb6.mono hb5.size)⟩

/-- The whole function. -/
theorem law4 (n : Nat) (up : Bool) (a : Option Addr) (len cap : Nat) (l : List UInt8) (hn : n < 65536) (w : World) (hT : TailIs w a len cap l) (tp : TypeId) (p : Value) (hV : w.cell? ⟨0, 0, none⟩ = some (.iface tp p)) :
    Calls Tryd.prog 4 #[.int .u16 (n : Int), .bool up, .slice a len cap] w fun e w' => e = .returned (.bool true) ∧ Below w.heap.size w w' := by
  by_cases h : len ≤ 1048576
  · obtain ⟨d1, d2, d3, d4, hd1, hd2, hd3, hd4, hN, e1, e2, e3, e4⟩ := digits4 n hn
    exact write_walk n d1 d2 d3 d4 up a len cap l hn hd1 hd2 hd3 hd4 e1 e2 e3 e4 hN h w hT tp p hV
  · clear hT hV
    go_enter Tryd.func4, Tryd.ntmps4
    go_wp2_with (go_at_call 8; refine (bytes8_no _ _ _ _ _ h _).mono ?_; rintro e w' ⟨rfl, rfl⟩)
    go_ret
    exact ⟨rfl, Below.refl _ _⟩
end Go.Proofs.Qxb6604098aDoor
