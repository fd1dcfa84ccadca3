/-
  FnAppendToPathRoundTrip where the lists are empty, of unequal lengths, or too long: true at once.
-/
import Derived.Test.Qxb6602772aDoorLaw
namespace Go.Proofs.Qxb6602772aDoor
open Go.RowKit

set_option maxRecDepth 100000 in
set_option maxHeartbeats 2000000 in
theorem law_none (a1 a2 : Option Addr) (c1 M c2 : Nat) (hM : M ≤ 9223372036854775807) (w : World) :
    Calls Tryd.prog 3 #[.slice a1 0 c1, .slice a2 M c2] w fun e w' => e = .returned (.bool true) ∧ Below w.heap.size w w' := by
  have H4 := Lib.hid (bytes4_none a1 a2 c1 M c2 hM w)
  go_enter Tryd.func3, Tryd.ntmps3
  go_wp2_with fail
  refine H4.out.mono ?_
  clear H4
  rintro e w0 ⟨⟨t, rfl, ht⟩, rfl⟩
  clear ht
  cases t with
  | false =>
    go_wp2
    go_ret
    exact ⟨rfl, Below.refl _ _⟩
  | true =>
    by_cases hM6 : 65536 < M
    · go_wp2
      go_ret
      exact ⟨rfl, Below.refl _ _⟩
    · go_wp2
      go_loop [5, 6] (fun vt vi => (∃ t : Int, vt = .int .i64 t) ∧ vi = .int .i64 0) (fun _ _ => 0)
      case atStart => exact ⟨⟨_, rfl⟩, rfl⟩
      case round =>
        obtain ⟨⟨t, rfl⟩, rfl⟩ := hrel
        by_cases hM0 : M = 0
        · subst hM0
          go_wp2
          go_loop [7] (fun vi => vi = .int .i64 0) (fun _ => 0)
          case atStart => rfl
          case round =>
            subst hrel
            go_wp2
            go_loop [8, 9] (fun v vi => v = .slice none 0 0 ∧ vi = .int .i64 0) (fun _ _ => 0)
            case atStart => exact ⟨rfl, rfl⟩
            case round =>
              obtain ⟨rfl, rfl⟩ := hrel
              go_wp2
              go_loop [10, 11] (fun vp vi => vp = .int .i64 0 ∧ vi = .int .i64 0) (fun _ _ => 0)
              case atStart => exact ⟨rfl, rfl⟩
              case round =>
                obtain ⟨rfl, rfl⟩ := hrel
                go_wp2
                go_ret
                exact ⟨rfl, Below.refl _ _⟩
        · have hne : ((0 : Int) != (M : Int)) = true := by rw [bne_iff_ne]; omega
          clear hM0
          go_wp2
          go_ret
          exact ⟨rfl, Below.refl _ _⟩

set_option maxRecDepth 100000 in
set_option maxHeartbeats 2000000 in
theorem law_long (nb no c1 N : Nat) (a2 : Option Addr) (M c2 : Nat) (hM : M ≤ 9223372036854775807) (hN : N ≤ 9223372036854775807) (hlong : 65536 < N ∨ 65536 < M ∨ 1048576 < 8 * M + 16 * N) (ss : List ByteArray) (hl : ss.length = N) (hss : ∀ s ∈ ss, s.size ≤ 9223372036854775807) (w : World) (hr : StrsAre w nb no ss) :
    Calls Tryd.prog 3 #[.slice (some ⟨nb, no, none⟩) N c1, .slice a2 M c2] w fun e w' => e = .returned (.bool true) ∧ Below w.heap.size w w' := by
  have H4 := Lib.hid (bytes4_some nb no N c1 a2 M c2 hM ss hl hss w hr)
  clear hr hl hss
  go_enter Tryd.func3, Tryd.ntmps3
  go_wp2_with fail
  refine H4.out.mono ?_
  clear H4
  rintro e w0 ⟨⟨t, rfl, ht⟩, rfl⟩
  clear ht
  cases t with
  | false =>
    go_wp2
    go_ret
    exact ⟨rfl, Below.refl _ _⟩
  | true =>
    by_cases h1 : 65536 < N
    · clear hlong
      go_wp2
      go_ret
      exact ⟨rfl, Below.refl _ _⟩
    · by_cases h2 : 65536 < M
      · clear hlong
        go_wp2
        go_ret
        exact ⟨rfl, Below.refl _ _⟩
      · have h3 : (1048576 : Int) < 8 * (M : Int) + 16 * (N : Int) := by omega
        clear hlong
        go_wp2
        go_ret
        exact ⟨rfl, Below.refl _ _⟩

set_option maxRecDepth 100000 in
set_option maxHeartbeats 2000000 in
theorem law_uneven (nb no c1 N : Nat) (a2 : Option Addr) (M c2 : Nat) (h1 : N ≤ 65536) (h2 : M ≤ 65536) (h3 : 8 * M + 16 * N ≤ 1048576) (hne : ¬ N = M) (ss : List ByteArray) (hl : ss.length = N) (hss : ∀ s ∈ ss, s.size ≤ 9223372036854775807) (w : World) (hr : StrsAre w nb no ss) :
    Calls Tryd.prog 3 #[.slice (some ⟨nb, no, none⟩) N c1, .slice a2 M c2] w fun e w' => e = .returned (.bool true) ∧ Below w.heap.size w w' := by
  have H4 := Lib.hid (bytes4_some nb no N c1 a2 M c2 (by omega) ss hl hss w hr)
  have HR := Lib.hid hr
  have HL := Lib.hid hl
  have hneb : ((N : Int) != (M : Int)) = true := by rw [bne_iff_ne]; omega
  clear hr hl hss hne
  go_enter Tryd.func3, Tryd.ntmps3
  go_wp2_with fail
  refine H4.out.mono ?_
  clear H4
  rintro e w0 ⟨⟨t, rfl, ht⟩, rfl⟩
  cases t with
  | false =>
    clear ht
    go_wp2
    go_ret
    exact ⟨rfl, Below.refl _ _⟩
  | true =>
    have HSZ := Lib.hid (ht rfl).2
    clear ht
    go_wp2
    go_loop [5, 6] (fun vt vi => ∃ (k : Nat) (t : Int), vt = .int .i64 t ∧ vi = .int .i64 k ∧ k ≤ N ∧ 0 ≤ t ∧ t ≤ 1048576) (fun _ vi => N - (intOf vi).toNat)
    case atStart => exact ⟨0, _, rfl, rfl, Nat.zero_le _, by omega, by omega⟩
    case round =>
      obtain ⟨k, t, rfl, rfl, hk, ht0, ht1⟩ := hrel
      have hlen := HL.out
      by_cases hkn : k < N
      · have hc := HR.out k (by omega)
        have hsz := HSZ.out k (by omega)
        generalize (ss[k]'(by omega)) = s at hc hsz
        have hi : (k : Int) < (N : Int) := by omega
        clear hlen
        by_cases ht : t + (s.size : Int) ≤ 1048576
        · go_wp2
          go_round
          case rel => exact ⟨k + 1, _, rfl, by go_num, by omega, by omega, by omega⟩
          case measure => simp [intOf]; omega
        · go_wp2
          go_ret
          exact ⟨rfl, Below.refl _ _⟩
      · clear hlen
        go_wp2
        go_ret
        exact ⟨rfl, Below.refl _ _⟩
end Go.Proofs.Qxb6602772aDoor
