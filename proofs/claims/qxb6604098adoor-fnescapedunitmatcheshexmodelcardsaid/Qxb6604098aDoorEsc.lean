/-
  strconv.ParseUint(s, 16, 16), escapedUnit and ZZEscapedUnit: the contracts.
-/
import Derived.Test.Qxb6604098aDoorParse
import Derived.Test.Qxb6604098aDoorShelf
import Derived.Laws.IdiomStrings
import Derived.WalkSpells
import Derived.BigQuiet
import Derived.Deep.QuietTactic
namespace Go.Proofs.Qxb6604098aDoor
open Go.RowKit

set_option maxHeartbeats 1000000 in
theorem pub_ok (t : ByteArray) (hne : t.size ≠ 0) (hmax : t.size ≤ 4) (n : Nat) (h : hexF 0 t.data.toList = some n) (w : World) :
    Calls Tryd.prog 12 #[.string t, .int .i64 16, .int .i64 16] w fun e w' => e = .returned (.tuple #[.int .u64 (n : Int), .nilIface]) ∧ Below w.heap.size w w' := by
  have hp := parse16 t hne hmax w
  rw [h] at hp
  go_enter Tryd.func12, Tryd.ntmps12
  go_wp2_with fail
  refine hp.mono ?_
  rintro e w' ⟨rfl, rfl⟩
  simp only [puEnd]
  go_wp2
  go_ret2
  exact ⟨rfl, Lib.bytesWorld_below w 5 t⟩

set_option maxHeartbeats 1000000 in
theorem pub_err (t : ByteArray) (hne : t.size ≠ 0) (hmax : t.size ≤ 4) (h : hexF 0 t.data.toList = none) (tp : TypeId) (p : Value) (w : World) (hv : w.cell? ⟨0, 0, none⟩ = some (.iface tp p)) :
    Calls Tryd.prog 12 #[.string t, .int .i64 16, .int .i64 16] w fun e w' => ∃ N, e = .returned (.tuple #[.int .u64 0, .iface 40 (.pointer (some ⟨N, 0, none⟩))]) ∧ Below w.heap.size w w' := by
  have hp := parse16 t hne hmax w
  rw [h] at hp
  have hb := Lib.bytesWorld_below w 5 t
  have hv2 : (Lib.bytesWorld w 5 t).cell? ⟨0, 0, none⟩ = some (.iface tp p) := (hb.cell (show (⟨0, 0, none⟩ : Addr).block < w.heap.size from World.block_lt_of_cell? w _ hv)).trans hv
  obtain ⟨W1, hW1⟩ : ∃ W1, W1 = Lib.bytesWorld w 5 t := ⟨_, rfl⟩
  rw [← hW1] at hp hb hv2
  clear hW1
  have hto := fun fn => Tryd.strconv_toError_syntax fn t 16 16 (.iface tp p) W1 (by omega) hv2 (.inr ⟨tp, p, rfl⟩)
  go_enter Tryd.func12, Tryd.ntmps12
  go_wp2_with fail
  refine hp.mono ?_
  rintro e w' ⟨rfl, rfl⟩
  simp only [puEnd]
  go_wp2_with fail
  refine (hto _).mono ?_
  rintro e w2 ⟨N, rfl, h1, h2, h3⟩
  go_wp2
  go_ret2
  exact ⟨N, rfl, hb.trans (h3.mono hb.size)⟩

/-- The cells of a row of bytes from an offset on. -/
def RowIs (w : World) (b o : Nat) (l : List UInt8) : Prop := ∀ j (hj : j < l.length), w.cell? ⟨b, o + j, none⟩ = some (.int .u8 (l[j].toNat : Int))

set_option maxHeartbeats 1000000 in
theorem esc_short (a : Option Addr) (len cap : Nat) (h : len < 6) (w : World) :
    Calls Tryd.prog 10 #[.slice a len cap] w fun e w' => e = .returned (.tuple #[.int .i32 0, .bool false]) ∧ w' = w := by
  have hi : (len : Int) < 6 := by omega
  go_enter Tryd.func10, Tryd.ntmps10
  go_wp2
  go_ret2
  exact ⟨rfl, rfl⟩

set_option maxHeartbeats 1000000 in
theorem esc_not0 (b o len cap : Nat) (c0 : UInt8) (h6 : 6 ≤ len) (w : World) (h0 : w.cell? ⟨b, o, none⟩ = some (.int .u8 (c0.toNat : Int))) (hn : ((c0.toNat : Int) != 92) = true) :
    Calls Tryd.prog 10 #[.slice (some ⟨b, o, none⟩) len cap] w fun e w' => e = .returned (.tuple #[.int .i32 0, .bool false]) ∧ w' = w := by
  have hi : (6 : Int) ≤ (len : Int) := by omega
  go_enter Tryd.func10, Tryd.ntmps10
  go_wp2
  go_ret2
  exact ⟨rfl, rfl⟩

set_option maxHeartbeats 1000000 in
theorem esc_not1 (b o len cap : Nat) (c0 c1 : UInt8) (h6 : 6 ≤ len) (w : World) (h0 : w.cell? ⟨b, o, none⟩ = some (.int .u8 (c0.toNat : Int))) (h1 : w.cell? ⟨b, o + 1, none⟩ = some (.int .u8 (c1.toNat : Int)))
    (hn : ((c0.toNat : Int) != 92) = false) (hn1 : ((c1.toNat : Int) != 117) = true) :
    Calls Tryd.prog 10 #[.slice (some ⟨b, o, none⟩) len cap] w fun e w' => e = .returned (.tuple #[.int .i32 0, .bool false]) ∧ w' = w := by
  have hi : (6 : Int) ≤ (len : Int) := by omega
  go_enter Tryd.func10, Tryd.ntmps10
  go_wp2
  go_ret2
  exact ⟨rfl, rfl⟩

set_option maxHeartbeats 1000000 in
theorem esc_ok (b o len cap : Nat) (c0 c1 : UInt8) (t : ByteArray) (h6 : 6 ≤ len) (hc : len ≤ cap) (w : World) (h0 : w.cell? ⟨b, o, none⟩ = some (.int .u8 (c0.toNat : Int))) (h1 : w.cell? ⟨b, o + 1, none⟩ = some (.int .u8 (c1.toNat : Int)))
    (hn : ((c0.toNat : Int) != 92) = false) (hn1 : ((c1.toNat : Int) != 117) = false)
    (hcv : (convert 22 9 (.slice (some ⟨b, o + 2, none⟩) 4 (cap - 2))).run Tryd.prog w = .ok (.string t) w) (ht : t.size = 4) (n : Nat) (hx : hexF 0 t.data.toList = some n) (hn16 : n ≤ 65535) :
    Calls Tryd.prog 10 #[.slice (some ⟨b, o, none⟩) len cap] w fun e w' => e = .returned (.tuple #[.int .i32 (n : Int), .bool true]) ∧ Below w.heap.size w w' := by
  have hi : (6 : Int) ≤ (len : Int) := by omega
  have HX : Hid (hexF 0 t.data.toList = some n) := hx
  have HT : Hid (t.size = 4) := ht
  clear hx ht
  go_enter Tryd.func10, Tryd.ntmps10
  go_wp2_with fail
  refine (pub_ok t (by have := HT.out; omega) (by have := HT.out; omega) n HX.out w).mono ?_
  rintro e w' ⟨rfl, hb⟩
  go_wp2
  go_ret2
  exact ⟨rfl, hb⟩

set_option maxHeartbeats 1000000 in
theorem esc_err (b o len cap : Nat) (c0 c1 : UInt8) (t : ByteArray) (h6 : 6 ≤ len) (hc : len ≤ cap) (w : World) (h0 : w.cell? ⟨b, o, none⟩ = some (.int .u8 (c0.toNat : Int))) (h1 : w.cell? ⟨b, o + 1, none⟩ = some (.int .u8 (c1.toNat : Int)))
    (hn : ((c0.toNat : Int) != 92) = false) (hn1 : ((c1.toNat : Int) != 117) = false)
    (hcv : (convert 22 9 (.slice (some ⟨b, o + 2, none⟩) 4 (cap - 2))).run Tryd.prog w = .ok (.string t) w) (ht : t.size = 4) (hx : hexF 0 t.data.toList = none)
    (tp : TypeId) (p : Value) (hv : w.cell? ⟨0, 0, none⟩ = some (.iface tp p)) :
    Calls Tryd.prog 10 #[.slice (some ⟨b, o, none⟩) len cap] w fun e w' => e = .returned (.tuple #[.int .i32 0, .bool false]) ∧ Below w.heap.size w w' := by
  have hi : (6 : Int) ≤ (len : Int) := by omega
  have HX : Hid (hexF 0 t.data.toList = none) := hx
  have HT : Hid (t.size = 4) := ht
  have HV : Hid (w.cell? ⟨0, 0, none⟩ = some (.iface tp p)) := hv
  clear hx ht hv
  go_enter Tryd.func10, Tryd.ntmps10
  go_wp2_with fail
  refine (pub_err t (by have := HT.out; omega) (by have := HT.out; omega) HX.out tp p w HV.out).mono ?_
  rintro e w' ⟨N, rfl, hb⟩
  go_wp2
  go_ret2
  exact ⟨rfl, hb⟩

/-- The unit that a text opens with, if it opens with an escape. -/
def escOf : List UInt8 → Option Nat
  | c0 :: c1 :: a :: b :: c :: d :: _ => if c0 = 92 ∧ c1 = 117 then hexF 0 [a, b, c, d] else none
  | _ => none
def escV : Option Nat → Value
  | some n => .tuple #[.int .i32 (n : Int), .bool true]
  | none => .tuple #[.int .i32 0, .bool false]

/-- A slice value that holds the bytes l. -/
def SliceIs (w : World) (v : Value) (l : List UInt8) : Prop :=
  (l = [] ∧ ∃ a cap, v = .slice a 0 cap) ∨ ∃ b o cap, v = .slice (some ⟨b, o, none⟩) l.length cap ∧ l.length ≤ cap ∧ RowIs w b o l

theorem byte_ne_false {c : UInt8} {k : Nat} (h : c.toNat = k) : ((c.toNat : Int) != (k : Int)) = false := by simp [h]
theorem byte_ne_true {c : UInt8} {k : Nat} (h : ¬ c.toNat = k) : ((c.toNat : Int) != (k : Int)) = true := by
  rw [bne_iff_ne]; omega

theorem escOf_short {l : List UInt8} (h : l.length < 6) : escOf l = none := by
  unfold escOf
  split
  · simp only [List.length_cons] at h; omega
  · rfl

theorem esc10 (v : Value) (l : List UInt8) (tp : TypeId) (p : Value) (w : World) (h : SliceIs w v l) (hv : w.cell? ⟨0, 0, none⟩ = some (.iface tp p)) :
    Calls Tryd.prog 10 #[v] w fun e w' => e = .returned (escV (escOf l)) ∧ Below w.heap.size w w' := by
  rcases h with ⟨rfl, a, cap, rfl⟩ | ⟨b, o, cap, rfl, hcap, hrow⟩
  · refine (esc_short a 0 cap (by omega) w).mono ?_
    rintro e w' ⟨rfl, rfl⟩
    exact ⟨rfl, Below.refl _ _⟩
  · by_cases h6 : l.length < 6
    · refine (esc_short _ _ cap h6 w).mono ?_
      rintro e w' ⟨rfl, rfl⟩
      rw [escOf_short h6]
      exact ⟨rfl, Below.refl _ _⟩
    · match l, hrow, h6, hcap with
      | c0 :: c1 :: x0 :: x1 :: x2 :: x3 :: rest, hrow, h6, hcap =>
        have r0 : w.cell? ⟨b, o, none⟩ = some (.int .u8 (c0.toNat : Int)) := hrow 0 (by simp)
        have r1 : w.cell? ⟨b, o + 1, none⟩ = some (.int .u8 (c1.toNat : Int)) := hrow 1 (by simp)
        by_cases e0 : c0 = 92
        · have n0 : c0.toNat = 92 := by rw [e0]; rfl
          by_cases e1 : c1 = 117
          · have n1 : c1.toNat = 117 := by rw [e1]; rfl
            have hcv := run_convert_bytes_back (P := Tryd.prog) w 22 9 5 ⟨b, o + 2, none⟩ (cap - 2) [x0, x1, x2, x3] Tryd.underlying22 Tryd.underlying5 Tryd.underlying9 (by
              intro j hj
              have hj4 : j < 4 := hj
              have := hrow (j + 2) (by simp only [List.length_cons]; omega)
              have e : ((⟨b, o + 2, none⟩ : Addr).add j) = ⟨b, o + (j + 2), none⟩ := by
                rw [Addr.add_lit]; congr 1; omega
              rw [e, this]
              have hj' : j = 0 ∨ j = 1 ∨ j = 2 ∨ j = 3 := by omega
              rcases hj' with rfl | rfl | rfl | rfl <;> rfl)
            have hE : escOf (c0 :: c1 :: x0 :: x1 :: x2 :: x3 :: rest) = hexF 0 [x0, x1, x2, x3] := by simp [escOf, e0, e1]
            rw [hE]
            cases hx : hexF 0 [x0, x1, x2, x3] with
            | none => exact esc_err b o _ cap c0 c1 _ (by omega) hcap w r0 r1 (byte_ne_false n0) (byte_ne_false n1) hcv rfl hx tp p hv
            | some n =>
              have hlt := hexF_lt _ _ _ hx
              have h4 : (0 + 1) * 16 ^ [x0, x1, x2, x3].length = 65536 := by simp
              exact esc_ok b o _ cap c0 c1 _ (by omega) hcap w r0 r1 (byte_ne_false n0) (byte_ne_false n1) hcv rfl n hx (by omega)
          · have n1 : ¬ c1.toNat = 117 := fun h => e1 (UInt8.toNat_inj.mp h)
            refine (esc_not1 b o _ cap c0 c1 (by omega) w r0 r1 (byte_ne_false n0) (byte_ne_true n1)).mono ?_
            rintro e w' ⟨rfl, rfl⟩
            have hE : escOf (c0 :: c1 :: x0 :: x1 :: x2 :: x3 :: rest) = none := by simp [escOf, e1]
            rw [hE]
            exact ⟨rfl, Below.refl _ _⟩
        · have n0 : ¬ c0.toNat = 92 := fun h => e0 (UInt8.toNat_inj.mp h)
          refine (esc_not0 b o _ cap c0 (by omega) w r0 (byte_ne_true n0)).mono ?_
          rintro e w' ⟨rfl, rfl⟩
          have hE : escOf (c0 :: c1 :: x0 :: x1 :: x2 :: x3 :: rest) = none := by simp [escOf, e0]
          rw [hE]
          exact ⟨rfl, Below.refl _ _⟩
      | [], _, h6, _ => simp at h6
      | [_], _, h6, _ => simp at h6
      | [_, _], _, h6, _ => simp at h6
      | [_, _, _], _, h6, _ => simp at h6
      | [_, _, _, _], _, h6, _ => simp at h6
      | [_, _, _, _, _], _, h6, _ => simp at h6

set_option maxHeartbeats 1000000 in
theorem zz6 (v : Value) (l : List UInt8) (tp : TypeId) (p : Value) (w : World) (h : SliceIs w v l) (hv : w.cell? ⟨0, 0, none⟩ = some (.iface tp p)) :
    Calls Tryd.prog 6 #[v] w fun e w' => e = .returned (escV (escOf l)) ∧ Below w.heap.size w w' := by
  have hc := esc10 v l tp p w h hv
  cases hE : escOf l with
  | none =>
    rw [hE] at hc
    have HC := Lib.hid hc
    clear hc hv h hE
    go_enter Tryd.func6, Tryd.ntmps6
    go_wp2_with fail
    refine HC.out.mono ?_
    rintro e w' ⟨rfl, hb⟩
    simp only [escV]
    go_wp2
    go_ret2
    exact ⟨rfl, hb⟩
  | some n =>
    rw [hE] at hc
    have HC := Lib.hid hc
    clear hc hv h hE
    go_enter Tryd.func6, Tryd.ntmps6
    go_wp2_with fail
    refine HC.out.mono ?_
    rintro e w' ⟨rfl, hb⟩
    simp only [escV]
    go_wp2
    go_ret2
    exact ⟨rfl, hb⟩
end Go.Proofs.Qxb6604098aDoor
