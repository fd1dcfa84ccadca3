/-
  The walk of FnAppendToPathRoundTrip.
-/
import Derived.Test.Qxb6602772aDoorFacts
import Derived.Test.Qxb6602772aDoorStep
import Derived.RegionTactic
import Derived.BigRegion
import Derived.Deep.RegionWith
namespace Go.Proofs.Qxb6602772aDoor
open Go.RowKit

theorem owns_any {w : World} {B n : Nat} {v : Value} {xs : List Value} (h : w.ownsRow B 5 1 v n xs) : ∃ a cap, v = .slice a n cap := by
  rcases h.2 with ⟨e, en⟩ | ⟨g, cap, cur, e, _⟩
  · exact ⟨none, 0, by rw [e, en]⟩
  · exact ⟨_, cap, e⟩
theorem owns_some {w : World} {B n cap : Nat} {a : Option Addr} {xs : List Value} (h : w.ownsRow B 5 1 (.slice a n cap) n xs) (hn : 1 ≤ n) : ∃ g, a = some ⟨g, 0, none⟩ ∧ n ≤ cap := by
  rcases h.2 with ⟨_, en⟩ | ⟨g, cap', cur, e, _, _, hc, _⟩
  · omega
  · cases e
    exact ⟨g, rfl, hc⟩
theorem cells_at {w : World} {B g n cap : Nat} {l : List UInt8} (h : w.ownsRow B 5 1 (.slice (some ⟨g, 0, none⟩) n cap) n (cells l)) : RowIs w g 0 l := fun j hj => by
  have hl : l.length = n := by
    have := h.1
    rw [cells, List.length_map] at this
    omega
  rw [Nat.zero_add, h.cellAt j (by omega), cells, List.getElem?_map, List.getElem?_eq_getElem hj]
  rfl

theorem rel_draws {w w0 : World} {B g nb no ib io : Nat} {p : List UInt8} {ss : List ByteArray} {zs : List Int} (h : RowIs w g 0 p ∧ StrsAre w nb no ss ∧ IntsAre w ib io zs ∧ Below B w0 w) (n : Nat) : RowIs (w.drewN n) g 0 p ∧ StrsAre (w.drewN n) nb no ss ∧ IntsAre (w.drewN n) ib io zs ∧ Below B w0 (w.drewN n) :=
  ⟨h.1, h.2.1, h.2.2.1, below_drewN h.2.2.2 n⟩

set_option maxRecDepth 100000 in
set_option maxHeartbeats 8000000 in
theorem law_main (nb no c1 ib io c2 N : Nat) (ss : List ByteArray) (zs : List Int) (hl : ss.length = N) (hz : zs.length = N) (h1 : 1 ≤ N) (h24 : 24 * N ≤ 1048576) (hss : ∀ s ∈ ss, s.size ≤ 9223372036854775807) (hzs : ∀ z ∈ zs, -9223372036854775808 ≤ z ∧ z ≤ 9223372036854775807) (w : World)
    (hr : StrsAre w nb no ss) (hi : IntsAre w ib io zs) (htab : Lib.TabBelow Tryd.prog w.heap.size w Tryd.powName .u64 Lib.pow10Tab) :
    Calls Tryd.prog 3 #[.slice (some ⟨nb, no, none⟩) N c1, .slice (some ⟨ib, io, none⟩) N c2] w fun e w' => e = .returned (.bool true) ∧ Below w.heap.size w w' := by
  have H4 := Lib.hid (bytes4_some nb no N c1 (some ⟨ib, io, none⟩) N c2 (by omega) ss hl hss w hr)
  have HR := Lib.hid hr
  have HI := Lib.hid hi
  have HT := Lib.hid htab
  have HL := Lib.hid hl
  have HZ := Lib.hid hz
  have HZS := Lib.hid hzs
  clear hr hi htab hl hz hss hzs
  go_enter Tryd.func3, Tryd.ntmps3
  go_wp2_with fail
  refine H4.out.mono ?_
  clear H4
  rintro e w0 ⟨⟨t, rfl, ht⟩, rfl⟩
  cases t with
  | false =>
    clear ht
    go_wp2
    go_ret
    exact ⟨rfl, Below.refl _ _⟩
  | true =>
    have HSZ := Lib.hid (ht rfl).2
    clear ht
    go_wp2
    -- THE FIRST LOOP: the lengths add up
    go_loop [5, 6] (fun vt vi => ∃ (k : Nat) (t : Int), vt = .int .i64 t ∧ vi = .int .i64 k ∧ k ≤ N ∧ 0 ≤ t ∧ t ≤ 1048576 ∧ Hid (t = ((24 * N + sumL ((steps ss zs).take k) : Nat) : Int))) (fun _ vi => N - (intOf vi).toNat)
    case atStart => exact ⟨0, _, rfl, rfl, Nat.zero_le _, by omega, by omega, by show _ = _; simp [sumL]; omega⟩
    case round =>
      obtain ⟨k, t, rfl, rfl, hk, ht0, ht1, hh⟩ := hrel
      have hlen := HL.out
      by_cases hkn : k < N
      · have hc := HR.out k (by omega)
        have hsz := HSZ.out k (by omega)
        have hstep := sumL_succ (st := steps ss zs) (k := k) (by rw [steps_length HL.out HZ.out]; exact hkn)
        rw [steps_at HL.out HZ.out hkn] at hstep
        have hsl : (ss[k].data.toList).length = ss[k].size := rfl
        have HN : Hid (t + (ss[k].size : Int) = ((24 * N + sumL ((steps ss zs).take (k + 1)) : Nat) : Int)) := by
          show _ = _
          rw [hstep, hh.out, hsl]
          omega
        clear hstep hsl hh
        generalize (ss[k]'(by omega)) = s at hc hsz HN
        have hi : (k : Int) < (N : Int) := by omega
        clear hlen
        by_cases ht : t + (s.size : Int) ≤ 1048576
        · go_wp2
          go_round
          case rel => exact ⟨k + 1, _, rfl, by go_num, by omega, by omega, by omega, HN⟩
          case measure => simp [intOf]; omega
        · go_wp2
          go_ret
          exact ⟨rfl, Below.refl _ _⟩
      · have HS : Hid (sumL (steps ss zs) ≤ 1048576) := by
          have e := hh.out
          rw [List.take_of_length_le (by rw [steps_length HL.out HZ.out]; omega)] at e
          show _ ≤ _
          omega
        clear hlen hh
        go_wp2
        clear hk hkn ht0 ht1
        -- THE SECOND LOOP: every member step's name is plain
        go_loop [7] (fun vi => ∃ k : Nat, vi = .int .i64 k ∧ k ≤ N ∧ Hid (∀ j (hj : j < (steps ss zs).length), j < k → (steps ss zs)[j].2 < 0 → plainB (steps ss zs)[j].1 = true)) (fun vi => N - (intOf vi).toNat)
        case atStart => exact ⟨0, rfl, Nat.zero_le _, fun j hj h => by omega⟩
        case round =>
          obtain ⟨k, rfl, hk, hh⟩ := hrel
          have hlen := HL.out
          have hlez := HZ.out
          by_cases hkn : k < N
          · have hc := HR.out k (by omega)
            have hcI := HI.out k (by omega)
            have hsz := HSZ.out k (by omega)
            have HN : Hid ((zs[k]'(by omega) < 0 → plainB (ss[k]'(by omega)).data.toList = true) → ∀ j (hj : j < (steps ss zs).length), j < k + 1 → (steps ss zs)[j].2 < 0 → plainB (steps ss zs)[j].1 = true) := fun h0 j hj hjk hneg => by
              by_cases e : j = k
              · subst e
                rw [steps_at HL.out HZ.out hkn] at hneg ⊢
                exact h0 hneg
              · exact hh.out j hj (by omega) hneg
            generalize (ss[k]'(by omega)) = s at hc hsz HN
            generalize (zs[k]'(by omega)) = z at hcI HN
            have hi : (k : Int) < (N : Int) := by omega
            clear hlen hlez hh
            by_cases hz0 : z < 0
            · have h5 := plain5 s hsz w0
              cases hp : plainB s.data.toList with
              | true =>
                rw [hp] at h5
                have HN' := Lib.hid (HN.out (fun _ => hp))
                clear HN hp
                go_wp2_with (go_at_call 5; refine h5.mono ?_; rintro e w' ⟨rfl, rfl⟩)
                go_round
                case rel => exact ⟨k + 1, by go_num, by omega, HN'⟩
                case measure => simp [intOf]; omega
              | false =>
                rw [hp] at h5
                clear HN hp
                go_wp2_with (go_at_call 5; refine h5.mono ?_; rintro e w' ⟨rfl, rfl⟩)
                go_ret
                exact ⟨rfl, Below.refl _ _⟩
            · have HN' := Lib.hid (HN.out (fun h => absurd h hz0))
              clear HN
              have hz0' : 0 ≤ z := by omega
              go_wp2
              go_round
              case rel => exact ⟨k + 1, by go_num, by omega, HN'⟩
              case measure => simp [intOf]; omega
          · have HP : Hid (∀ j (hj : j < (steps ss zs).length), (steps ss zs)[j].2 < 0 → plainB (steps ss zs)[j].1 = true) := fun j hj hneg => hh.out j hj (by rw [steps_length HL.out HZ.out] at hj; omega) hneg
            clear hlen hlez hh
            go_wp2
            clear hk hkn
            -- THE THIRD LOOP: the path is built
            go_loopw [8, 9] (fun v vi wr => ∃ (k n cap : Nat) (a : Option Addr), vi = .int .i64 k ∧ k ≤ N ∧ v = .slice a n cap ∧ Hid (n = (pathK (steps ss zs) k).length ∧ wr.ownsRow w0.heap.size 5 1 (.slice a n cap) n (cells (pathK (steps ss zs) k)) ∧ Below w0.heap.size w0 wr)) (fun _ vi _ => N - (intOf vi).toNat)
            case atStart => exact ⟨0, 0, 0, none, rfl, Nat.zero_le _, rfl, by rw [pathK_zero]; exact ⟨rfl, World.ownsRow_nil _ _ _ _, Below.refl _ _⟩⟩
            case round =>
              obtain ⟨k, n, cap, a, rfl, hk, rfl, hh⟩ := hrel
              by_cases hkn : k < N
              · have hlen := HL.out
                have hlez := HZ.out
                obtain ⟨hn, ho, hb⟩ := hh.out
                have hc : wr.cell? ⟨nb, no + k, none⟩ = some (.string (ss[k]'(by omega))) := (hb.cell (World.block_lt_of_cell? _ _ (HR.out k (by omega)))).trans (HR.out k (by omega))
                have hcI : wr.cell? ⟨ib, io + k, none⟩ = some (.int .i64 (zs[k]'(by omega))) := (hb.cell (World.block_lt_of_cell? _ _ (HI.out k (by omega)))).trans (HI.out k (by omega))
                have hsz := HSZ.out k (by omega)
                have hzb := HZS.out _ (List.getElem_mem (show k < zs.length by omega))
                have hsl := steps_length HL.out HZ.out
                have hple := pathK_le (steps ss zs) (fun s hs => by
                  obtain ⟨j, hj, rfl⟩ := List.mem_iff_getElem.1 hs
                  rw [steps_at HL.out HZ.out (by omega)]
                  exact HZS.out _ (List.getElem_mem _)) k (by omega)
                have hsum := sumL_take_le (steps ss zs) k
                have hS := HS.out
                have hsucc := pathK_succ (st := steps ss zs) (k := k) (by omega)
                rw [steps_at HL.out HZ.out hkn] at hsucc
                have H6 := Lib.hid (zz6 w0.heap.size a cap n (pathK (steps ss zs) k) hn.symm (ss[k]'(by omega)) (zs[k]'(by omega)) hzb.1 hzb.2 hsz (by omega) wr.drew ho.drew hb.size (HT.out.on hb.drew))
                rw [← hsucc] at H6
                clear hh hn ho hsz hzb hple hsum hS hsucc
                generalize (ss[k]'(by omega)) = s at hc H6
                generalize (zs[k]'(by omega)) = z at hcI H6
                have hi : (k : Int) < (N : Int) := by omega
                have HB := Lib.hid hb
                clear hb hlen hlez hsl
                go_wp2_with fail
                go_region_with (go_at_call 6; go_must (refine H6.out.mono ?_); rintro e w2 ⟨v2, rfl, ho2, hb2⟩; have HO2 := Lib.hid ho2; have HB2 := Lib.hid hb2; clear ho2 hb2)
                all_goals
                  obtain ⟨a2, cap2, e2⟩ := owns_any HO2.out
                  obtain ⟨n2, hn2⟩ : ∃ n2, n2 = (pathK (steps ss zs) (k + 1)).length := ⟨_, rfl⟩
                  rw [← hn2] at e2
                  subst e2
                  have HN2 := Lib.hid hn2
                  clear hn2
                  go_wp2
                  go_roundw
                  case rel => exact ⟨k + 1, n2, cap2, a2, by go_num, by omega, rfl, ⟨HN2.out, by have := HO2.out; rw [← HN2.out] at this; exact this, HB.out.drew.trans HB2.out⟩⟩
                  case measure => simp [intOf]; omega
              · have hkk : N = k := by omega
                subst hkk
                obtain ⟨hn, ho, hb⟩ := hh.out
                have hsl := steps_length HL.out HZ.out
                have hn1 : 1 ≤ n := by
                  rw [hn]
                  exact pathK_len HP.out (by omega) h1
                have hple := pathK_le (steps ss zs) (fun s hs => by
                  obtain ⟨j, hj, rfl⟩ := List.mem_iff_getElem.1 hs
                  rw [steps_at HL.out HZ.out (by omega)]
                  exact HZS.out _ (List.getElem_mem _)) N (by omega)
                have hsum := sumL_take_le (steps ss zs) N
                have hS := HS.out
                have hnlim : n ≤ 1073741824 := by omega
                obtain ⟨g, rfl, hncap⟩ := owns_some ho hn1
                have hrow := cells_at ho
                have HREL : Hid (RowIs wr g 0 (pathK (steps ss zs) N) ∧ StrsAre wr nb no ss ∧ IntsAre wr ib io zs ∧ Below w0.heap.size w0 wr) := ⟨hrow, fun j hj => (hb.cell (World.block_lt_of_cell? _ _ (HR.out j hj))).trans (HR.out j hj), fun j hj => (hb.cell (World.block_lt_of_cell? _ _ (HI.out j hj))).trans (HI.out j hj), hb⟩
                have HN := Lib.hid hn
                clear hh hn ho hb hsl hple hsum hS hrow HR HI HT HS
                go_wp2
                clear hk hkn
                -- THE FOURTH LOOP: the path is read
                go_loopw [10, 11] (fun vp vi wr => ∃ (k q : Nat), vp = .int .i64 q ∧ vi = .int .i64 k ∧ k ≤ N ∧ Hid (q = (pathK (steps ss zs) k).length) ∧ Hid (RowIs wr g 0 (pathK (steps ss zs) N) ∧ StrsAre wr nb no ss ∧ IntsAre wr ib io zs ∧ Below w0.heap.size w0 wr)) (fun _ vi _ => N - (intOf vi).toNat)
                case atStart => exact ⟨0, 0, rfl, rfl, Nat.zero_le _, by rw [pathK_zero]; exact rfl, HREL⟩
                case round =>
                  clear HREL
                  obtain ⟨k, q, rfl, rfl, hk, HQ, HRL⟩ := hrel
                  by_cases hkn : k < N
                  · have hA := at_step HL.out HZ.out HP.out hkn
                    have hlen := HL.out
                    have hlez := HZ.out
                    have hc := HRL.out.2.1 k (by omega)
                    have hcI := HRL.out.2.2.1 k (by omega)
                    have hsz := HSZ.out k (by omega)
                    have hzb := HZS.out _ (List.getElem_mem (show k < zs.length by omega))
                    generalize (ss[k]'(by omega)) = s at hc hsz hA
                    generalize (zs[k]'(by omega)) = z at hcI hzb hA
                    have hi : (k : Int) < (N : Int) := by omega
                    clear hlen hlez
                    by_cases hz0 : 0 ≤ z
                    · -- an index step
                      obtain ⟨u, rfl⟩ : ∃ u : Nat, z = (u : Int) := ⟨z.toNat, by omega⟩
                      obtain ⟨q2, hq2, c91, hqn, hq2n, h7⟩ := index_facts (cap := cap) hA (by omega) HN.out hnlim HQ.out wr HRL.out.1
                      have H7 := Lib.hid h7
                      have HNX := Lib.hid hq2
                      clear h7 hq2 hA hsz hc
                      have hu0 : ¬ ((u : Int) < 0) := by omega
                      have hu64 : IntKind.u64.wrap (u : Int) = (u : Int) := by rw [IntKind.wrap_u64]; omega
                      clear hzb
                      go_wp2_with fail
                      refine H7.out.mono ?_
                      rintro e w' ⟨rfl, hw'⟩
                      subst hw'
                      go_wp2
                      go_roundw
                      case rel => exact ⟨k + 1, q2, by go_num, by go_num, by omega, HNX.out, HRL⟩
                      case measure => simp [intOf]; omega
                    · -- a member step
                      have hzl : z < 0 := by omega
                      have HPL := Lib.hid (hA.plain hzl)
                      obtain ⟨f1, f2⟩ := name_facts hA hzl HN.out HQ.out wr HRL.out.1
                      have hzd : decide (0 ≤ z) = false := by simpa using hz0
                      have hs1 : 1 ≤ s.size := plain_len HPL.out
                      clear hA hzb
                      by_cases hq0 : 0 < q
                      · obtain ⟨c46, fr, fle, fnx, fend⟩ := f1 hq0
                        clear f1 f2
                        have HRS := Lib.hid fr
                        have HNX := Lib.hid fnx
                        have HEND := Lib.hid fend
                        clear fr fnx fend
                        have hcq : ¬ cap = q + 1 := by omega
                        have H8 : Hid (∀ c1 m, Calls Tryd.prog 8 #[.slice (some ⟨g, q + 1, none⟩) s.size c1, .string s] (wr.drewN m) fun e w' => e = .returned (.bool true) ∧ ∃ n, w' = (wr.drewN m).drewN n) := fun c1 m => same8 g (q + 1) c1 s hsz (wr.drewN m) (HRS.out.on (below_drewN (Below.refl _ _) m))
                        have hq0i : (0 : Int) < (q : Int) := by omega
                        have hqn : (q : Int) < (n : Int) := by omega
                        go_wp2
                        go_loop [10] (fun vp => ∃ j : Nat, vp = .int .i64 ((q + 1 + j : Nat) : Int) ∧ j ≤ s.size) (fun vp => n - (intOf vp).toNat)
                        case atStart => exact ⟨0, by go_num, Nat.zero_le _⟩
                        case round =>
                          obtain ⟨j, rfl, hj⟩ := hrel
                          by_cases hjn : j < s.size
                          · have hcj := HRS.out j hjn
                            obtain ⟨p1, p2⟩ := plain_at HPL.out (j := j) hjn
                            generalize (s.data.toList[j]'hjn) = c at hcj p1 p2
                            have hb1 : ((c.toNat : Int) != 46) = true := by rw [bne_iff_ne]; omega
                            have hb2 : ((c.toNat : Int) != 91) = true := by rw [bne_iff_ne]; omega
                            have hji : (q : Int) + 1 + (j : Int) < (n : Int) := by omega
                            clear p1 p2
                            go_wp2
                            go_round
                            case rel => exact ⟨j + 1, by go_num, by omega⟩
                            case measure => simp [intOf]; omega
                          · have hjj : j = s.size := by omega
                            subst hjj
                            clear hjn hj
                            rcases HEND.out with hE | ⟨c, hcE, hE, hlt⟩
                            · have hji : ¬ (q : Int) + 1 + (s.size : Int) < (n : Int) := by omega
                              clear hE
                              go_wp2_with fail
                              go_quiet ((go_at_call 8; exact Calls.quiet_of (H8.out _ _)))
                              go_wp2
                              go_roundw
                              case rel => exact ⟨k + 1, q + 1 + s.size, by go_num, by go_num, by omega, HNX.out, rel_draws HRL.out _⟩
                              case measure => simp [intOf]; omega
                            · have hji : (q : Int) + 1 + (s.size : Int) < (n : Int) := by omega
                              rcases hE with hE | hE
                              · have hb1 : ((c.toNat : Int) != 46) = false := by rw [hE]; rfl
                                clear hE hlt
                                go_wp2_with fail
                                go_quiet ((go_at_call 8; exact Calls.quiet_of (H8.out _ _)))
                                go_wp2
                                go_roundw
                                case rel => exact ⟨k + 1, q + 1 + s.size, by go_num, by go_num, by omega, HNX.out, rel_draws HRL.out _⟩
                                case measure => simp [intOf]; omega
                              · have hb1 : ((c.toNat : Int) != 46) = true := by rw [hE]; rfl
                                have hb2 : ((c.toNat : Int) != 91) = false := by rw [hE]; rfl
                                clear hE hlt
                                go_wp2_with fail
                                go_quiet ((go_at_call 8; exact Calls.quiet_of (H8.out _ _)))
                                go_wp2
                                go_roundw
                                case rel => exact ⟨k + 1, q + 1 + s.size, by go_num, by go_num, by omega, HNX.out, rel_draws HRL.out _⟩
                                case measure => simp [intOf]; omega
                      · obtain ⟨fr, fle, fnx, fend⟩ := f2 hq0
                        clear f1 f2
                        have hKs : s.data.toList.length = s.size := rfl
                        have hc0 := fr 0 (by omega)
                        obtain ⟨p1, p2⟩ := plain_at HPL.out (j := 0) (by omega)
                        generalize (s.data.toList[0]'(by omega)) = c00 at hc0 p1 p2
                        have hb0 : ((c00.toNat : Int) == 91) = false := by simpa using (by omega : ¬ (c00.toNat : Int) = 91)
                        rw [Nat.add_zero] at hc0
                        have HRS := Lib.hid fr
                        have HNX := Lib.hid fnx
                        have HEND := Lib.hid fend
                        clear fr fnx fend p1 p2 hKs
                        have hcq : ¬ cap = q := by omega
                        have H8 : Hid (∀ c1 m, Calls Tryd.prog 8 #[.slice (some ⟨g, q, none⟩) s.size c1, .string s] (wr.drewN m) fun e w' => e = .returned (.bool true) ∧ ∃ n, w' = (wr.drewN m).drewN n) := fun c1 m => same8 g q c1 s hsz (wr.drewN m) (HRS.out.on (below_drewN (Below.refl _ _) m))
                        have hq0i : ¬ (0 : Int) < (q : Int) := by omega
                        have hqn : (q : Int) < (n : Int) := by omega
                        go_wp2
                        go_loop [10] (fun vp => ∃ j : Nat, vp = .int .i64 ((q + j : Nat) : Int) ∧ j ≤ s.size) (fun vp => n - (intOf vp).toNat)
                        case atStart => exact ⟨0, by go_num, Nat.zero_le _⟩
                        case round =>
                          obtain ⟨j, rfl, hj⟩ := hrel
                          by_cases hjn : j < s.size
                          · have hcj := HRS.out j hjn
                            obtain ⟨p1, p2⟩ := plain_at HPL.out (j := j) hjn
                            generalize (s.data.toList[j]'hjn) = c at hcj p1 p2
                            have hb1 : ((c.toNat : Int) != 46) = true := by rw [bne_iff_ne]; omega
                            have hb2 : ((c.toNat : Int) != 91) = true := by rw [bne_iff_ne]; omega
                            have hji : (q : Int) + (j : Int) < (n : Int) := by omega
                            clear p1 p2
                            go_wp2
                            go_round
                            case rel => exact ⟨j + 1, by go_num, by omega⟩
                            case measure => simp [intOf]; omega
                          · have hjj : j = s.size := by omega
                            subst hjj
                            clear hjn hj
                            rcases HEND.out with hE | ⟨c, hcE, hE, hlt⟩
                            · have hji : ¬ (q : Int) + (s.size : Int) < (n : Int) := by omega
                              clear hE
                              go_wp2_with fail
                              go_quiet ((go_at_call 8; exact Calls.quiet_of (H8.out _ _)))
                              go_wp2
                              go_roundw
                              case rel => exact ⟨k + 1, q + s.size, by go_num, by go_num, by omega, HNX.out, rel_draws HRL.out _⟩
                              case measure => simp [intOf]; omega
                            · have hji : (q : Int) + (s.size : Int) < (n : Int) := by omega
                              rcases hE with hE | hE
                              · have hb1 : ((c.toNat : Int) != 46) = false := by rw [hE]; rfl
                                clear hE hlt
                                go_wp2_with fail
                                go_quiet ((go_at_call 8; exact Calls.quiet_of (H8.out _ _)))
                                go_wp2
                                go_roundw
                                case rel => exact ⟨k + 1, q + s.size, by go_num, by go_num, by omega, HNX.out, rel_draws HRL.out _⟩
                                case measure => simp [intOf]; omega
                              · have hb1 : ((c.toNat : Int) != 46) = true := by rw [hE]; rfl
                                have hb2 : ((c.toNat : Int) != 91) = false := by rw [hE]; rfl
                                clear hE hlt
                                go_wp2_with fail
                                go_quiet ((go_at_call 8; exact Calls.quiet_of (H8.out _ _)))
                                go_wp2
                                go_roundw
                                case rel => exact ⟨k + 1, q + s.size, by go_num, by go_num, by omega, HNX.out, rel_draws HRL.out _⟩
                                case measure => simp [intOf]; omega
                  · have hkk : N = k := by omega
                    subst hkk
                    have HE : Hid (q = n) := by
                      show _ = _
                      rw [HQ.out, HN.out]
                    have hqe : ((q : Int) == (n : Int)) = true := by simpa using (by have := HE.out; omega : (q : Int) = (n : Int))
                    go_wp2
                    go_ret
                    exact ⟨rfl, HRL.out.2.2.2⟩
end Go.Proofs.Qxb6602772aDoor
