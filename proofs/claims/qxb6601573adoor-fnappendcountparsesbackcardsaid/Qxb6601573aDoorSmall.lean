/-
  The small functions that the law calls: the length bound, hasByte, sameBytes, sameBytesStr.
-/
import Derived.Test.Qxb6601573aDoorRows
import Derived.Test.Qxb6601573aDoorPlain
import Derived.Lib.Strings
import Derived.Lib.Hide
import Derived.WalkKit
import Derived.WalkSpells
import Derived.BigQuiet
import Derived.Deep.QuietTactic
import Derived.Below
namespace Go.Proofs.Qxb6601573aDoor
open Go.RowKit

/-- The cells of a row of bytes from an offset on. -/
def RowIs (w : World) (b o : Nat) (l : List UInt8) : Prop := ∀ j (hj : j < l.length), w.cell? ⟨b, o + j, none⟩ = some (.int .u8 (l[j].toNat : Int))

/-- A slice value that holds the bytes l. -/
def SliceIs (w : World) (v : Value) (l : List UInt8) : Prop :=
  (l = [] ∧ ∃ a cap, v = .slice a 0 cap) ∨ ∃ b o cap, v = .slice (some ⟨b, o, none⟩) l.length cap ∧ l.length ≤ cap ∧ RowIs w b o l

theorem RowIs.on {w w' : World} {b o : Nat} {l : List UInt8} (h : RowIs w b o l) (hb : Below w.heap.size w w') : RowIs w' b o l := fun j hj => by
  have hc := h j hj
  exact (hb.cell (World.block_lt_of_cell? w _ hc)).trans hc
theorem SliceIs.on {w w' : World} {v : Value} {l : List UInt8} (h : SliceIs w v l) (hb : Below w.heap.size w w') : SliceIs w' v l := by
  rcases h with h | ⟨b, o, cap, e, hc, hrow⟩
  · exact .inl h
  · exact .inr ⟨b, o, cap, e, hc, hrow.on hb⟩

theorem bytes4_yes (a : Option Addr) (len cap : Nat) (key : ByteArray) (q : Option Addr) (h : len + key.size ≤ 1048576) (w : World) :
    Calls Tryd.prog 4 #[.slice a len cap, .string key, .pointer q] w fun e w' => e = .returned (.bool true) ∧ w' = w := by
  go_enter Tryd.func4, Tryd.ntmps4
  go_wp2
  go_ret
  exact ⟨rfl, rfl⟩

set_option maxHeartbeats 1000000 in
theorem bytes4_no (a : Option Addr) (len cap : Nat) (key : ByteArray) (q : Option Addr) (h : ¬ len + key.size ≤ 1048576) (w : World) :
    Calls Tryd.prog 4 #[.slice a len cap, .string key, .pointer q] w fun e w' => e = .returned (.bool false) ∧ w' = w := by
  by_cases h1 : 1048576 < len
  · go_enter Tryd.func4, Tryd.ntmps4
    go_wp2
    go_ret
    exact ⟨rfl, rfl⟩
  · by_cases h2 : 1048576 < key.size
    · go_enter Tryd.func4, Tryd.ntmps4
      go_wp2
      go_ret
      exact ⟨rfl, rfl⟩
    · go_enter Tryd.func4, Tryd.ntmps4
      go_wp2
      go_ret
      exact ⟨rfl, rfl⟩

theorem at_some (a : ByteArray) (k : Nat) (h : k < a.size) : a.data.toList[k]? = some a[k] := by
  rw [List.getElem?_eq_getElem (show k < a.data.toList.length from h)]; rfl

/-- hasByte: is the byte 61 among the string's? -/
def has61 (s : ByteArray) : Bool := s.data.toList.any (fun c => c.toNat == 61)

theorem take_no {s : ByteArray} {k : Nat} (hk : k < s.size) (h : (s.data.toList.take k).any (fun c => c.toNat == 61) = false) (hc : ¬ s[k].toNat = 61) : (s.data.toList.take (k + 1)).any (fun c => c.toNat == 61) = false := by
  rw [List.take_add_one, at_some s k hk, List.any_append, h]
  simpa using hc
theorem has_yes {s : ByteArray} {k : Nat} (hk : k < s.size) (hc : s[k].toNat = 61) : has61 s = true := by
  unfold has61
  rw [List.any_eq_true]
  exact ⟨s[k], List.mem_of_getElem? (at_some s k hk), by simpa using hc⟩

set_option maxHeartbeats 1000000 in
theorem hasByte5 (s : ByteArray) (hs : s.size ≤ 1048576) (w : World) :
    Calls Tryd.prog 5 #[.string s, .int .u8 61] w fun e w' => e = .returned (.bool (has61 s)) ∧ w' = w := by
  go_enter Tryd.func5, Tryd.ntmps5
  go_wp2
  go_loop [5] (fun i => ∃ k : Nat, k ≤ s.size ∧ i = .int .i64 k ∧ Hid ((s.data.toList.take k).any (fun c => c.toNat == 61) = false)) (fun i => s.size - (intOf i).toNat)
  case atStart => exact ⟨0, Nat.zero_le _, rfl, rfl⟩
  case round =>
    obtain ⟨k, hk, rfl, hn⟩ := hrel
    by_cases hlt : k < s.size
    · by_cases hc : s[k].toNat = 61
      · have hb : ((s[k].toNat : Int) == 61) = true := by simpa using (by omega : (s[k].toNat : Int) = 61)
        have H := Lib.hid (has_yes hlt hc)
        clear hc
        go_wp2
        go_ret
        exact ⟨by rw [H.out]; rfl, rfl⟩
      · have hb : ((s[k].toNat : Int) == 61) = false := by simpa using (by omega : ¬ (s[k].toNat : Int) = 61)
        have H := Lib.hid (take_no hlt hn.out hc)
        clear hc hn
        go_wp2
        go_round
        case rel => exact ⟨k + 1, by omega, by go_num, H⟩
        case measure => simp [intOf]; omega
    · have H : Hid (has61 s = false) := by
        have := hn.out
        rw [List.take_of_length_le (show s.data.toList.length ≤ k from by have : s.data.toList.length = s.size := rfl; omega)] at this
        exact this
      clear hn
      go_wp2
      go_ret
      exact ⟨by rw [H.out]; rfl, rfl⟩
end Go.Proofs.Qxb6601573aDoor
