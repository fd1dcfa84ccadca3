/-
  appendTo and ZZAppendTo onto a row that the caller owns.
-/
import Derived.Test.Qxb6602772aDoorSmall
import Derived.Test.Qxb6602772aDoorShelf
import Derived.OwnWalk
import Derived.WalkSmall
import Derived.Lib.AppendStr
import Derived.Lib.AppendIntMem
namespace Go.Proofs.Qxb6602772aDoor
open Go.RowKit

theorem Tryd.info5 : (Tryd.prog.info? 5).map (fun i => (i.zero, i.size, i.bytes)) = some (some (.int .u8 0), 1, 1) := by kernel_rfl

def cells (l : List UInt8) : List Value := l.map fun c => Value.int .u8 (c.toNat : Int)
theorem cells_append (l r : List UInt8) : cells (l ++ r) = cells l ++ cells r := by simp [cells]

theorem one_new (w : World) (x : Value) (t : TypeId) : ∀ j u, [x][j]? = some u → (w.alloc (.cells #[x] t)).cell? ((⟨w.heap.size, 0, none⟩ : Addr).add j) = some u := by
  intro j u hj
  match j, hj with
  | 0, hj => simp at hj; subst hj; simp [Addr.add]
  | j + 1, hj => simp at hj

theorem one_new2 (w : World) (o : Obj) (x : Value) (t : TypeId) : ∀ j u, [x][j]? = some u → ((w.alloc o).alloc (.cells #[x] t)).cell? ((⟨w.heap.size + 1, 0, none⟩ : Addr).add j) = some u := by
  have h := one_new (w.alloc o) x t
  have e : (w.alloc o).heap.size = w.heap.size + 1 := by simp
  rw [e] at h
  exact h

theorem owns_ne {w : World} {B k n : Nat} {v : Value} {xs : List Value} (h : w.ownsRow B 5 1 v n xs) (hk : w.heap.size ≤ k) : some k ≠ v.ownBlock := fun e => by
  have := (h.lt k e.symm).2
  omega

set_option maxHeartbeats 2000000 in
theorem step_index (B n : Nat) (a : Option Addr) (cap : Nat) (p : List UInt8) (name : ByteArray) (idx : Int) (h0 : 0 ≤ idx) (h1 : idx ≤ 9223372036854775807) (hlim : n ≤ 1073741824) (w : World) (hown : w.ownsRow B 5 1 (.slice a n cap) n (cells p)) (hBw : B ≤ w.heap.size)
    (htab : Lib.TabBelow Tryd.prog B w Tryd.powName .u64 Lib.pow10Tab) :
    Calls Tryd.prog 9 #[.agg #[.string name, .int .i64 idx], .slice a n cap] w fun e w' => ∃ v, e = .returned v ∧ w'.ownsRow B 5 1 v (n + 1 + (Lib.itoa idx).length + 1) (cells (p ++ ([91] ++ Lib.itoa idx ++ [93]))) ∧ Below B w w' := by
  obtain ⟨i, hi, hz0, hz1, hz2⟩ := info_parts Tryd.info5
  have hD2 := Lib.itoa_length_le idx (by omega) h1
  have hb0 : Below B w ((w.alloc (.cells #[.string name, .int .i64 idx] 33)).alloc (.cells #[.int .u8 91] 5)) := ((Below.refl _ _).alloc hBw _).alloc (by simp; omega) _
  have HO := Lib.hid hown
  have HT := Lib.hid htab
  have HB0 := Lib.hid hb0
  clear hown htab hb0
  go_enter Tryd.func9, Tryd.ntmps9
  go_wp2_with (at_builtin; go_must (refine wpList_append_own _ rfl _ _ 26 rfl B 5 i _ 1 1 Tryd.underlying26 hi hz0 hz1 hz2 rfl (by decide) _ n _ rfl ((HO.out.alloc _).alloc _) _ 1 1 [.int .u8 91] rfl rfl (one_new2 _ _ _ _) (by simp [Value.oneCell']) (by unfold maxLen; omega) (by omega) (by simp; omega) ?_))
  intro v2 w2 hown2 hg2 _
  have hbox : w2.cell? ⟨w.heap.size, 1, none⟩ = some (.int .i64 idx) := hg2.cell (a := ⟨w.heap.size, 1, none⟩) (by simp) (owns_ne HO.out (Nat.le_refl _))
  have hb2 : Below B w w2 := HB0.out.grown hg2 (by simp; omega) (fun k hk => (HO.out.lt k hk).1)
  have ho2 : w2.ownsRow B 5 1 v2 (n + 1) (cells (p ++ [91])) := by
    rw [cells_append]
    exact hown2
  have HO2 := Lib.hid ho2
  have HB2 := Lib.hid hb2
  clear hown2 hg2 hb2 ho2 HB0
  go_wp2_with fail
  refine (Tryd.strconv_AppendInt_10 B (n + 1) idx (by omega) h1 v2 _ w2 HO2.out (Nat.le_trans hBw HB2.out.size) (by omega) (HT.out.on HB2.out)).mono ?_
  rintro e w3 ⟨v3, rfl, ho3, hb3, -⟩
  have HO3 := Lib.hid ho3
  have HB3 := Lib.hid (HB2.out.trans hb3)
  clear ho3 hb3 hbox HO2 HB2
  go_wp2_with (at_builtin; go_must (refine wpList_append_own _ rfl _ _ 26 rfl B 5 i _ 1 1 Tryd.underlying26 hi hz0 hz1 hz2 rfl (by decide) _ (n + 1 + (Lib.itoa idx).length) _ rfl (HO3.out.alloc _) _ 1 1 [.int .u8 93] rfl rfl (one_new _ _ _) (by simp [Value.oneCell']) (by unfold maxLen; omega) (by omega) (by have := HB3.out.size; simp; omega) ?_))
  intro v4 w4 hown4 hg4 _
  have hb4 : Below B w w4 := (HB3.out.alloc (by have := HB3.out.size; omega) _).grown hg4 (by have := HB3.out.size; simp; omega) (fun k hk => (HO3.out.lt k hk).1)
  have HO4 : Hid (w4.ownsRow B 5 1 v4 (n + 1 + (Lib.itoa idx).length + 1) (cells (p ++ ([91] ++ Lib.itoa idx ++ [93])))) := by
    simpa [cells, Lib.byteCells, Hid] using hown4
  have HB4 := Lib.hid hb4
  clear hown4 hg4 hb4
  go_wp2
  go_ret
  exact ⟨v4, rfl, HO4.out, HB4.out⟩

set_option maxHeartbeats 2000000 in
theorem step_first (B : Nat) (a : Option Addr) (cap : Nat) (name : ByteArray) (idx : Int) (h0 : idx < 0) (hnm : name.size ≤ 1048576) (w : World) (hown : w.ownsRow B 5 1 (.slice a 0 cap) 0 []) (hBw : B ≤ w.heap.size) :
    Calls Tryd.prog 9 #[.agg #[.string name, .int .i64 idx], .slice a 0 cap] w fun e w' => ∃ v, e = .returned v ∧ w'.ownsRow B 5 1 v name.size (cells name.data.toList) ∧ Below B w w' := by
  obtain ⟨i, hi, hz0, hz1, hz2⟩ := info_parts Tryd.info5
  have hb0 : Below B w (w.alloc (.cells #[.string name, .int .i64 idx] 33)) := (Below.refl _ _).alloc hBw _
  have HO := Lib.hid hown
  have HB0 := Lib.hid hb0
  clear hown hb0
  go_enter Tryd.func9, Tryd.ntmps9
  go_wp2_with (at_builtin; go_must (refine Lib.wpList_append_own_string _ rfl _ _ 26 9 rfl B 5 i Tryd.underlying26 Tryd.underlying9 hi hz0 hz1 hz2 _ 0 _ rfl (HO.out.alloc _) name rfl (by unfold maxLen; omega) (by omega) (by simp; omega) ?_))
  intro v2 w2 hown2 hg2 _
  have hb2 : Below B w w2 := HB0.out.grown hg2 (by simp; omega) (fun k hk => (HO.out.lt k hk).1)
  have HO2 : Hid (w2.ownsRow B 5 1 v2 name.size (cells name.data.toList)) := by
    simpa [cells, Lib.strCells, Hid] using hown2
  have HB2 := Lib.hid hb2
  clear hown2 hg2 hb2
  go_wp2
  go_ret
  exact ⟨v2, rfl, HO2.out, HB2.out⟩

set_option maxHeartbeats 2000000 in
theorem step_name (B n : Nat) (a : Option Addr) (cap : Nat) (p : List UInt8) (name : ByteArray) (idx : Int) (h0 : idx < 0) (hnm : name.size ≤ 1048576) (hn1 : 1 ≤ n) (hlim : n ≤ 1073741824) (w : World) (hown : w.ownsRow B 5 1 (.slice a n cap) n (cells p)) (hBw : B ≤ w.heap.size) :
    Calls Tryd.prog 9 #[.agg #[.string name, .int .i64 idx], .slice a n cap] w fun e w' => ∃ v, e = .returned v ∧ w'.ownsRow B 5 1 v (n + 1 + name.size) (cells (p ++ ([46] ++ name.data.toList))) ∧ Below B w w' := by
  obtain ⟨i, hi, hz0, hz1, hz2⟩ := info_parts Tryd.info5
  have hb0 : Below B w ((w.alloc (.cells #[.string name, .int .i64 idx] 33)).alloc (.cells #[.int .u8 46] 5)) := ((Below.refl _ _).alloc hBw _).alloc (by simp; omega) _
  have HO := Lib.hid hown
  have HB0 := Lib.hid hb0
  have hpos : (0 : Int) < (n : Int) := by omega
  clear hown hb0
  go_enter Tryd.func9, Tryd.ntmps9
  go_wp2_with (at_builtin; go_must (refine wpList_append_own _ rfl _ _ 26 rfl B 5 i _ 1 1 Tryd.underlying26 hi hz0 hz1 hz2 rfl (by decide) _ n _ rfl ((HO.out.alloc _).alloc _) _ 1 1 [.int .u8 46] rfl rfl (one_new2 _ _ _ _) (by simp [Value.oneCell']) (by unfold maxLen; omega) (by omega) (by simp; omega) ?_))
  intro v2 w2 hown2 hg2 _
  have hbox : w2.cell? ⟨w.heap.size, 0, none⟩ = some (.string name) := hg2.cell (a := ⟨w.heap.size, 0, none⟩) (by simp) (owns_ne HO.out (Nat.le_refl _))
  have hb2 : Below B w w2 := HB0.out.grown hg2 (by simp; omega) (fun k hk => (HO.out.lt k hk).1)
  have HO2 := Lib.hid hown2
  have HB2 := Lib.hid hb2
  clear hown2 hg2 hb2 HB0
  go_wp2_with (at_builtin; go_must (refine Lib.wpList_append_own_string _ rfl _ _ 26 9 rfl B 5 i Tryd.underlying26 Tryd.underlying9 hi hz0 hz1 hz2 _ (n + 1) _ rfl HO2.out name rfl (by unfold maxLen; omega) (by omega) (Nat.le_trans hBw HB2.out.size) ?_))
  intro v3 w3 hown3 hg3 _
  have hb3 : Below B w w3 := HB2.out.grown hg3 (Nat.le_trans hBw HB2.out.size) (fun k hk => (HO2.out.lt k hk).1)
  have HO3 : Hid (w3.ownsRow B 5 1 v3 (n + 1 + name.size) (cells (p ++ ([46] ++ name.data.toList)))) := by
    simpa [cells, Lib.strCells, Hid] using hown3
  have HB3 := Lib.hid hb3
  clear hown3 hg3 hb3
  go_wp2
  go_ret
  exact ⟨v3, rfl, HO3.out, HB3.out⟩

theorem step9 (B : Nat) (a : Option Addr) (cap : Nat) (p : List UInt8) (name : ByteArray) (idx : Int) (h0 : -9223372036854775808 ≤ idx) (h1 : idx ≤ 9223372036854775807) (hnm : name.size ≤ 1048576) (hlim : p.length ≤ 1073741824) (w : World) (hown : w.ownsRow B 5 1 (.slice a p.length cap) p.length (cells p)) (hBw : B ≤ w.heap.size)
    (htab : Lib.TabBelow Tryd.prog B w Tryd.powName .u64 Lib.pow10Tab) :
    Calls Tryd.prog 9 #[.agg #[.string name, .int .i64 idx], .slice a p.length cap] w fun e w' => ∃ v, e = .returned v ∧ w'.ownsRow B 5 1 v (p ++ piece p (name.data.toList, idx)).length (cells (p ++ piece p (name.data.toList, idx))) ∧ Below B w w' := by
  have hK : name.data.toList.length = name.size := rfl
  by_cases hi : 0 ≤ idx
  · have e : piece p (name.data.toList, idx) = [91] ++ Lib.itoa idx ++ [93] := by unfold piece; rw [if_pos hi]
    have el : (p ++ ([91] ++ Lib.itoa idx ++ [93])).length = p.length + 1 + (Lib.itoa idx).length + 1 := by simp; omega
    rw [e, el]
    exact step_index B p.length a cap p name idx hi h1 hlim w hown hBw htab
  · by_cases hp : 0 < p.length
    · have e : piece p (name.data.toList, idx) = [46] ++ name.data.toList := by unfold piece; rw [if_neg hi, if_pos hp]
      have el : (p ++ ([46] ++ name.data.toList)).length = p.length + 1 + name.size := by rw [List.length_append, List.length_append, hK]; simp; omega
      rw [e, el]
      exact step_name B p.length a cap p name idx (by omega) hnm (by omega) hlim w hown hBw
    · have hpn : p = [] := List.eq_nil_of_length_eq_zero (by omega)
      subst hpn
      have e : piece [] (name.data.toList, idx) = name.data.toList := by unfold piece; rw [if_neg hi, if_neg (by simp)]
      rw [e, List.nil_append, hK]
      exact step_first B a cap name idx (by omega) hnm w hown hBw

set_option maxHeartbeats 1000000 in
theorem zz6 (B : Nat) (a : Option Addr) (cap n : Nat) (p : List UInt8) (hn : p.length = n) (name : ByteArray) (idx : Int) (h0 : -9223372036854775808 ≤ idx) (h1 : idx ≤ 9223372036854775807) (hnm : name.size ≤ 1048576) (hlim : n ≤ 1073741824) (w : World) (hown : w.ownsRow B 5 1 (.slice a n cap) n (cells p)) (hBw : B ≤ w.heap.size)
    (htab : Lib.TabBelow Tryd.prog B w Tryd.powName .u64 Lib.pow10Tab) :
    Calls Tryd.prog 6 #[.string name, .int .i64 idx, .slice a n cap] w fun e w' => ∃ v, e = .returned v ∧ w'.ownsRow B 5 1 v (p ++ piece p (name.data.toList, idx)).length (cells (p ++ piece p (name.data.toList, idx))) ∧ Below B w w' := by
  subst hn
  have H9 := Lib.hid (step9 B a cap p name idx h0 h1 hnm hlim w hown hBw htab)
  clear hown htab
  go_enter Tryd.func6, Tryd.ntmps6
  go_wp2_with fail
  refine H9.out.mono ?_
  rintro e w2 ⟨v, rfl, ho, hb⟩
  have HO := Lib.hid ho
  have HB := Lib.hid hb
  clear ho hb
  go_wp2
  go_ret
  exact ⟨v, rfl, HO.out, HB.out⟩
end Go.Proofs.Qxb6602772aDoor
