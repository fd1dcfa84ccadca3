/-
  sameBytes and sameBytesStr where the two hold the same bytes.
-/
import Derived.Test.Qxb6601573aDoorSmall
namespace Go.Proofs.Qxb6601573aDoor
open Go.RowKit

set_option maxHeartbeats 1000000 in
theorem same8_none (a1 a2 : Option Addr) (c1 c2 : Nat) (w : World) :
    Calls Tryd.prog 8 #[.slice a1 0 c1, .slice a2 0 c2] w fun e w' => e = .returned (.bool true) ∧ ∃ n, w' = w.drewN n := by
  go_enter Tryd.func8, Tryd.ntmps8
  go_wp2
  go_loop [5] (fun i => i = .int .i64 0) (fun _ => 0)
  case atStart => rfl
  case round =>
    subst hrel
    go_wp2
    go_ret
    exact ⟨rfl, 0, rfl⟩

set_option maxHeartbeats 1000000 in
theorem same8_some (b1 o1 c1 b2 o2 c2 len : Nat) (l : List UInt8) (hl : l.length = len) (hlim : len ≤ 2097152) (w : World) (h1 : RowIs w b1 o1 l) (h2 : RowIs w b2 o2 l) :
    Calls Tryd.prog 8 #[.slice (some ⟨b1, o1, none⟩) len c1, .slice (some ⟨b2, o2, none⟩) len c2] w fun e w' => e = .returned (.bool true) ∧ ∃ n, w' = w.drewN n := by
  have H1 := Lib.hid h1
  have H2 := Lib.hid h2
  have HL := Lib.hid hl
  clear h1 h2 hl
  go_enter Tryd.func8, Tryd.ntmps8
  go_wp2
  go_loopw [5] (fun i wr => ∃ k : Nat, k ≤ len ∧ i = .int .i64 k ∧ ∃ n, wr = w.drewN n) (fun i _ => len - (intOf i).toNat)
  case atStart => exact ⟨0, Nat.zero_le _, rfl, 0, rfl⟩
  case round =>
    obtain ⟨k, hk, rfl, n, rfl⟩ := hrel
    by_cases hlt : k < len
    · have hlen := HL.out
      have e1 := H1.out k (by omega)
      have e2 := H2.out k (by omega)
      generalize (l[k]'(by omega)) = c at e1 e2
      have hi : (k : Int) < (len : Int) := by omega
      clear hlen
      go_wp2_with fail
      go_quiet (fail)
      go_wp2
      go_roundw
      case rel => exact ⟨k + 1, by omega, by go_num, _, rfl⟩
      case measure => simp [intOf]; omega
    · go_wp2
      go_ret
      exact ⟨rfl, n, rfl⟩

theorem same8 (v1 v2 : Value) (l : List UInt8) (hlim : l.length ≤ 2097152) (w : World) (h1 : SliceIs w v1 l) (h2 : SliceIs w v2 l) :
    Calls Tryd.prog 8 #[v1, v2] w fun e w' => e = .returned (.bool true) ∧ ∃ n, w' = w.drewN n := by
  rcases h1 with ⟨rfl, a1, c1, rfl⟩ | ⟨b1, o1, c1, rfl, hc1, r1⟩
  · rcases h2 with ⟨_, a2, c2, rfl⟩ | ⟨b2, o2, c2, rfl, hc2, r2⟩
    · exact same8_none a1 a2 c1 c2 w
    · exact same8_none a1 _ c1 c2 w
  · rcases h2 with ⟨rfl, a2, c2, rfl⟩ | ⟨b2, o2, c2, rfl, hc2, r2⟩
    · exact same8_none _ a2 c1 c2 w
    · exact same8_some b1 o1 c1 b2 o2 c2 l.length l rfl hlim w r1 r2

set_option maxHeartbeats 1000000 in
theorem same9_none (a1 : Option Addr) (c1 : Nat) (s : ByteArray) (hs : s.size = 0) (w : World) :
    Calls Tryd.prog 9 #[.slice a1 0 c1, .string s] w fun e w' => e = .returned (.bool true) ∧ ∃ n, w' = w.drewN n := by
  go_enter Tryd.func9, Tryd.ntmps9
  go_wp2
  go_loop [5] (fun i => i = .int .i64 0) (fun _ => 0)
  case atStart => rfl
  case round =>
    subst hrel
    go_wp2
    go_ret
    exact ⟨rfl, 0, rfl⟩

set_option maxHeartbeats 1000000 in
theorem same9_some (b1 o1 c1 : Nat) (s : ByteArray) (hlim : s.size ≤ 1048576) (w : World) (h1 : RowIs w b1 o1 s.data.toList) :
    Calls Tryd.prog 9 #[.slice (some ⟨b1, o1, none⟩) s.size c1, .string s] w fun e w' => e = .returned (.bool true) ∧ ∃ n, w' = w.drewN n := by
  have H1 := Lib.hid h1
  clear h1
  go_enter Tryd.func9, Tryd.ntmps9
  go_wp2
  go_loopw [5] (fun i wr => ∃ k : Nat, k ≤ s.size ∧ i = .int .i64 k ∧ ∃ n, wr = w.drewN n) (fun i _ => s.size - (intOf i).toNat)
  case atStart => exact ⟨0, Nat.zero_le _, rfl, 0, rfl⟩
  case round =>
    obtain ⟨k, hk, rfl, n, rfl⟩ := hrel
    by_cases hlt : k < s.size
    · have e1 : w.cell? ⟨b1, o1 + k, none⟩ = some (.int .u8 (s[k].toNat : Int)) := H1.out k hlt
      have hi : (k : Int) < (s.size : Int) := by omega
      go_wp2_with fail
      go_quiet (fail)
      go_wp2
      go_roundw
      case rel => exact ⟨k + 1, by omega, by go_num, _, rfl⟩
      case measure => simp [intOf]; omega
    · go_wp2
      go_ret
      exact ⟨rfl, n, rfl⟩

theorem same9 (v1 : Value) (s : ByteArray) (hlim : s.size ≤ 1048576) (w : World) (h1 : SliceIs w v1 s.data.toList) :
    Calls Tryd.prog 9 #[v1, .string s] w fun e w' => e = .returned (.bool true) ∧ ∃ n, w' = w.drewN n := by
  rcases h1 with ⟨e, a1, c1, rfl⟩ | ⟨b1, o1, c1, rfl, hc1, r1⟩
  · exact same9_none a1 c1 s (by rw [Lib.size_eq, e]; rfl) w
  · exact same9_some b1 o1 c1 s hlim w r1
end Go.Proofs.Qxb6601573aDoor
