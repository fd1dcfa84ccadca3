/-
  The length bound, plainName and sameText.
-/
import Derived.Test.Qxb6602772aDoorRows
import Derived.Test.Qxb6602772aDoorPlain
import Derived.Lib.Strings
import Derived.Lib.Hide
import Derived.WalkKit
import Derived.WalkSpells
import Derived.BigQuiet
import Derived.Deep.QuietTactic
import Derived.Below
namespace Go.Proofs.Qxb6602772aDoor
open Go.RowKit

/-- The cells of a row of bytes from an offset on. -/
def RowIs (w : World) (b o : Nat) (l : List UInt8) : Prop := ∀ j (hj : j < l.length), w.cell? ⟨b, o + j, none⟩ = some (.int .u8 (l[j].toNat : Int))
/-- The cells of a row of strings. -/
def StrsAre (w : World) (b o : Nat) (ss : List ByteArray) : Prop := ∀ j (hj : j < ss.length), w.cell? ⟨b, o + j, none⟩ = some (.string ss[j])
/-- The cells of a row of ints. -/
def IntsAre (w : World) (b o : Nat) (zs : List Int) : Prop := ∀ j (hj : j < zs.length), w.cell? ⟨b, o + j, none⟩ = some (.int .i64 zs[j])

theorem RowIs.on {w w' : World} {b o : Nat} {l : List UInt8} (h : RowIs w b o l) (hb : Below w.heap.size w w') : RowIs w' b o l := fun j hj => by
  have hc := h j hj
  exact (hb.cell (World.block_lt_of_cell? w _ hc)).trans hc

/-- A bool that, where it is true, tells P. -/
def Told (e : Ending) (P : Prop) : Prop := ∃ t, e = .returned (.bool t) ∧ (t = true → P)

set_option maxHeartbeats 1000000 in
theorem bytes4_none (a1 a2 : Option Addr) (c1 M c2 : Nat) (hM : M ≤ 9223372036854775807) (w : World) :
    Calls Tryd.prog 4 #[.slice a1 0 c1, .slice a2 M c2] w fun e w' => Told e True ∧ w' = w := by
  go_enter Tryd.func4, Tryd.ntmps4
  go_wp2
  go_loop [5, 6] (fun z i => z = .int .i64 0 ∧ i = .int .i64 0) (fun _ _ => 0)
  case atStart => exact ⟨rfl, rfl⟩
  case round =>
    obtain ⟨rfl, rfl⟩ := hrel
    go_wp2
    all_goals go_ret
    all_goals exact ⟨⟨_, rfl, fun _ => trivial⟩, rfl⟩

set_option maxHeartbeats 2000000 in
theorem bytes4_some (b o N c1 : Nat) (a2 : Option Addr) (M c2 : Nat) (hM : M ≤ 9223372036854775807) (ss : List ByteArray) (hl : ss.length = N) (hss : ∀ s ∈ ss, s.size ≤ 9223372036854775807) (w : World) (hr : StrsAre w b o ss) :
    Calls Tryd.prog 4 #[.slice (some ⟨b, o, none⟩) N c1, .slice a2 M c2] w fun e w' => Told e (N ≤ 1048576 ∧ ∀ j (hj : j < ss.length), ss[j].size ≤ 1048576) ∧ w' = w := by
  have HR := Lib.hid hr
  have HL := Lib.hid hl
  have HS := Lib.hid hss
  clear hr hl hss
  by_cases hN : 1048576 < N
  · go_enter Tryd.func4, Tryd.ntmps4
    go_wp2
    all_goals go_ret
    all_goals exact ⟨⟨false, rfl, fun h => by cases h⟩, rfl⟩
  · go_enter Tryd.func4, Tryd.ntmps4
    go_wp2
    go_loop [5, 6] (fun z i => ∃ (k : Nat) (x : Int), z = .int .i64 x ∧ i = .int .i64 k ∧ k ≤ N ∧ 0 ≤ x ∧ x ≤ 1048576 ∧ Hid (∀ j (hj : j < ss.length), j < k → ss[j].size ≤ 1048576)) (fun _ i => N - (intOf i).toNat)
    case atStart => exact ⟨0, _, rfl, rfl, Nat.zero_le _, by omega, by omega, fun j hj h => by omega⟩
    case round =>
      obtain ⟨k, x, rfl, rfl, hk, hx0, hx1, hh⟩ := hrel
      have hlen := HL.out
      by_cases hkn : k < N
      · have hc := HR.out k (by omega)
        have hsz := HS.out _ (List.getElem_mem (show k < ss.length by omega))
        have HI : Hid (ss[k].size ≤ 1048576 → ∀ j (hj : j < ss.length), j < k + 1 → ss[j].size ≤ 1048576) := fun h0 j hj h => by
          by_cases e : j = k
          · subst e; exact h0
          · exact hh.out j hj (by omega)
        generalize (ss[k]'(by omega)) = s at hc hsz HI
        clear hlen hh
        have hi : (k : Int) < (N : Int) := by omega
        by_cases hs : s.size ≤ 1048576
        · have HI' := Lib.hid (HI.out hs)
          clear HI
          by_cases ht : x + (s.size : Int) ≤ 1048576
          · go_wp2
            go_round
            case rel => exact ⟨k + 1, _, rfl, by go_num, by omega, by omega, by omega, HI'⟩
            case measure => simp [intOf]; omega
          · go_wp2
            go_ret
            exact ⟨⟨false, rfl, fun h => by cases h⟩, rfl⟩
        · clear HI
          go_wp2
          go_ret
          exact ⟨⟨false, rfl, fun h => by cases h⟩, rfl⟩
      · clear hlen
        go_wp2
        all_goals go_ret
        all_goals exact ⟨⟨_, rfl, fun _ => ⟨by omega, fun j hj => hh.out j hj (by have := HL.out; omega)⟩⟩, rfl⟩

theorem at_some (a : ByteArray) (k : Nat) (h : k < a.size) : a.data.toList[k]? = some a[k] := by
  rw [List.getElem?_eq_getElem (show k < a.data.toList.length from h)]; rfl

theorem plain_step {s : ByteArray} {k : Nat} (hk : k < s.size) (h : (s.data.toList.take k).all (fun c => c.toNat != 46 && c.toNat != 91) = true) (h1 : ¬ s[k].toNat = 46) (h2 : ¬ s[k].toNat = 91) : (s.data.toList.take (k + 1)).all (fun c => c.toNat != 46 && c.toNat != 91) = true := by
  rw [List.take_add_one, at_some s k hk, List.all_append, h]
  simpa using ⟨h1, h2⟩
theorem plain_no {s : ByteArray} {k : Nat} (hk : k < s.size) (h : s[k].toNat = 46 ∨ s[k].toNat = 91) : plainB s.data.toList = false := by
  cases e : plainB s.data.toList with
  | false => rfl
  | true =>
    have := plain_at e (j := k) (show k < s.data.toList.length from hk)
    rcases h with h | h
    · exact absurd h this.1
    · exact absurd h this.2

set_option maxHeartbeats 2000000 in
theorem plain5 (s : ByteArray) (hs : s.size ≤ 1048576) (w : World) :
    Calls Tryd.prog 5 #[.string s] w fun e w' => e = .returned (.bool (plainB s.data.toList)) ∧ w' = w := by
  by_cases h0 : s.size = 0
  · have H : Hid (plainB s.data.toList = false) := by
      have : s.data.toList = [] := List.eq_nil_of_length_eq_zero h0
      rw [this]; exact rfl
    have hb : ((s.size : Int) == 0) = true := by simpa using (by omega : (s.size : Int) = 0)
    clear h0
    go_enter Tryd.func5, Tryd.ntmps5
    go_wp2
    go_ret
    exact ⟨by rw [H.out]; rfl, rfl⟩
  · have hb : ((s.size : Int) == 0) = false := by simpa using (by omega : ¬ (s.size : Int) = 0)
    have hne : Hid (s.data.toList.isEmpty = false) := by
      cases e : s.data.toList with
      | nil => exact absurd (show s.size = 0 by rw [Lib.size_eq, e]; rfl) h0
      | cons a b => exact rfl
    clear h0
    go_enter Tryd.func5, Tryd.ntmps5
    go_wp2
    go_loop [3] (fun i => ∃ k : Nat, k ≤ s.size ∧ i = .int .i64 k ∧ Hid ((s.data.toList.take k).all (fun c => c.toNat != 46 && c.toNat != 91) = true)) (fun i => s.size - (intOf i).toNat)
    case atStart => exact ⟨0, Nat.zero_le _, rfl, rfl⟩
    case round =>
      obtain ⟨k, hk, rfl, hn⟩ := hrel
      by_cases hlt : k < s.size
      · by_cases hc : s[k].toNat = 46
        · have hb : ((s[k].toNat : Int) == 46) = true := by simpa using (by omega : (s[k].toNat : Int) = 46)
          have H := Lib.hid (plain_no hlt (.inl hc))
          clear hc
          go_wp2
          go_ret
          exact ⟨by rw [H.out]; rfl, rfl⟩
        · have hb : ((s[k].toNat : Int) == 46) = false := by simpa using (by omega : ¬ (s[k].toNat : Int) = 46)
          by_cases hd : s[k].toNat = 91
          · have hb2 : ((s[k].toNat : Int) == 91) = true := by simpa using (by omega : (s[k].toNat : Int) = 91)
            have H := Lib.hid (plain_no hlt (.inr hd))
            clear hc hd
            go_wp2
            go_ret
            exact ⟨by rw [H.out]; rfl, rfl⟩
          · have hb2 : ((s[k].toNat : Int) == 91) = false := by simpa using (by omega : ¬ (s[k].toNat : Int) = 91)
            have H := Lib.hid (plain_step hlt hn.out hc hd)
            clear hc hd hn
            go_wp2
            go_round
            case rel => exact ⟨k + 1, by omega, by go_num, H⟩
            case measure => simp [intOf]; omega
      · have H : Hid (plainB s.data.toList = true) := by
          have := hn.out
          rw [List.take_of_length_le (show s.data.toList.length ≤ k from by have : s.data.toList.length = s.size := rfl; omega)] at this
          unfold plainB
          rw [this, hne.out]
          exact rfl
        clear hn
        go_wp2
        go_ret
        exact ⟨by rw [H.out]; rfl, rfl⟩

set_option maxHeartbeats 1000000 in
theorem same8 (b1 o1 c1 : Nat) (s : ByteArray) (hlim : s.size ≤ 1048576) (w : World) (h1 : RowIs w b1 o1 s.data.toList) :
    Calls Tryd.prog 8 #[.slice (some ⟨b1, o1, none⟩) s.size c1, .string s] w fun e w' => e = .returned (.bool true) ∧ ∃ n, w' = w.drewN n := by
  have H1 := Lib.hid h1
  clear h1
  go_enter Tryd.func8, Tryd.ntmps8
  go_wp2
  go_loopw [5] (fun i wr => ∃ k : Nat, k ≤ s.size ∧ i = .int .i64 k ∧ ∃ n, wr = w.drewN n) (fun i _ => s.size - (intOf i).toNat)
  case atStart => exact ⟨0, Nat.zero_le _, rfl, 0, rfl⟩
  case round =>
    obtain ⟨k, hk, rfl, n, rfl⟩ := hrel
    by_cases hlt : k < s.size
    · have e1 : w.cell? ⟨b1, o1 + k, none⟩ = some (.int .u8 (s[k].toNat : Int)) := H1.out k hlt
      have hi : (k : Int) < (s.size : Int) := by omega
      go_wp2_with fail
      go_quiet (fail)
      go_wp2
      go_roundw
      case rel => exact ⟨k + 1, by omega, by go_num, _, rfl⟩
      case measure => simp [intOf]; omega
    · go_wp2
      go_ret
      exact ⟨rfl, n, rfl⟩
end Go.Proofs.Qxb6602772aDoor
