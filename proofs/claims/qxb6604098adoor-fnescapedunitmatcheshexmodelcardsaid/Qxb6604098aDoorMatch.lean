/-
  The walk of FnEscapedUnitMatchesHexModel.
-/
import Derived.Test.Qxb6604098aDoorWrite
import Derived.Test.Qxb6604098aDoorModel
import Derived.Laws.CopyOwn
import Derived.WalkSpells
namespace Go.Proofs.Qxb6604098aDoor
open Go.RowKit

set_option maxHeartbeats 400000 in
theorem bytes5_yes (a : Option Addr) (len cap : Nat) (h : len ≤ 1048576) (w : World) :
    Calls Tryd.prog 5 #[.slice a len cap] w fun e w' => e = .returned (.bool true) ∧ w' = w := by
  go_enter Tryd.func5, Tryd.ntmps5
  go_wp2
  go_ret
  exact ⟨rfl, rfl⟩

set_option maxHeartbeats 400000 in
theorem bytes5_no (a : Option Addr) (len cap : Nat) (h : ¬ len ≤ 1048576) (w : World) :
    Calls Tryd.prog 5 #[.slice a len cap] w fun e w' => e = .returned (.bool false) ∧ w' = w := by
  go_enter Tryd.func5, Tryd.ntmps5
  go_wp2
  go_ret
  exact ⟨rfl, rfl⟩

set_option maxHeartbeats 1000000 in
theorem zz6_short (a : Option Addr) (len cap : Nat) (h : len < 6) (w : World) :
    Calls Tryd.prog 6 #[.slice a len cap] w fun e w' => e = .returned (.tuple #[.int .i32 0, .bool false]) ∧ w' = w := by
  go_enter Tryd.func6, Tryd.ntmps6
  go_wp2_with (go_at_call 10; refine (esc_short _ _ _ h _).mono ?_; rintro e w' ⟨rfl, rfl⟩)
  go_ret2
  exact ⟨rfl, rfl⟩

set_option maxHeartbeats 1000000 in
theorem match_nil (w : World) :
    Calls Tryd.prog 3 #[.slice none 0 0] w fun e w' => e = .returned (.bool true) ∧ Below w.heap.size w w' := by
  have hnil := fun W => run_neq_slice_nil_any (P := Tryd.prog) W 22 5 none 0 0 0 0 Tryd.underlying22
  go_enter Tryd.func3, Tryd.ntmps3
  go_wp2_with fail
  refine (bytes5_yes _ _ _ (by omega) _).mono ?_
  rintro e w' ⟨rfl, rfl⟩
  go_wp2_with fail
  refine (zz6_short none 0 0 (by omega) _).mono ?_
  rintro e w' ⟨rfl, rfl⟩
  go_wp2_with fail
  refine (mod_short none 0 0 (by omega) _).mono ?_
  rintro e w' ⟨rfl, rfl⟩
  go_wp2
  go_ret
  exact ⟨rfl, Below.refl _ _⟩

theorem SliceIs.on {w w' : World} {v : Value} {l : List UInt8} (h : SliceIs w v l) (hb : Below w.heap.size w w') : SliceIs w' v l := by
  rcases h with h | ⟨b, o, cap, e, hc, hrow⟩
  · exact .inl h
  · refine .inr ⟨b, o, cap, e, hc, fun j hj => ?_⟩
    have := hrow j hj
    exact (hb.cell (World.block_lt_of_cell? w _ this)).trans this

/-- The two answers are one: whatever the text. -/
theorem escV_eq (x : Option Nat) : ∃ (u : Int) (ok : Bool), escV x = .tuple #[.int .i32 u, .bool ok] := by
  cases x with
  | none => exact ⟨0, false, rfl⟩
  | some n => exact ⟨(n : Int), true, rfl⟩

set_option maxHeartbeats 1000000 in
theorem match_some (x : Addr) (len cap : Nat) (l : List UInt8) (h : len ≤ 1048576) (w : World) (hT : TailIs w (some x) len cap l) (tp : TypeId) (p : Value) (hV : w.cell? ⟨0, 0, none⟩ = some (.iface tp p)) :
    Calls Tryd.prog 3 #[.slice (some x) len cap] w fun e w' => e = .returned (.bool true) ∧ Below w.heap.size w w' := by
  have hnil := fun W => run_neq_slice_nil_any (P := Tryd.prog) W 22 5 (some x) len cap 0 0 Tryd.underlying22
  obtain ⟨i, hi, hz0, hz1, hz2⟩ := info_parts Tryd.info5
  have hinfo : (Tryd.prog.info? 5).map (·.size) = some 1 := by rw [hi]; simp [hz1]
  -- 'make([]byte, len(text))'
  obtain ⟨M, hM⟩ : ∃ M, M = madeCells (Value.int .u8 0).cells (((len : Nat) : Int).toNat * i.size) := ⟨_, rfl⟩
  have hMs : M.size = len := by rw [hM, size_madeCells, hz1]; simp
  have hmk : ∀ W : World, (Instr.makeSlice 22 (.int .i64 (len : Int)) (.int .i64 (len : Int))).run Tryd.prog W = .ok (.slice (some ⟨W.heap.size, 0, none⟩) len len) (W.alloc (.cells M 5)) := fun W => by
    have h := run_make (P := Tryd.prog) W 22 5 i (.int .u8 0) Tryd.underlying22 hi hz0 .i64 .i64 (len : Int) (len : Int) (by omega) (by omega) (by rw [hz2]; omega) (by omega)
    rw [← hM] at h
    simpa using h
  clear hM
  -- 'copy(zzc, text)'
  have hb1 : Below w.heap.size w (w.alloc (.cells M 5)) := (Below.refl _ w).alloc (Nat.le_refl _) _
  have hT1 := hT.on hb1
  obtain ⟨cs, hcs⟩ : ∃ cs, cs = l.map fun c => Value.int .u8 (c.toNat : Int) := ⟨_, rfl⟩
  have hcl : cs.length = len := by rw [hcs, List.length_map, hT.1]
  have hcp := run_copy_row (P := Tryd.prog) (w.alloc (.cells M 5)) 22 22 3 5 w.heap.size 0 len len x len cap M 5 cs Tryd.underlying22 hinfo (heap_alloc_new w _) (by rw [hcl]; simp [Nat.min]) (by rw [hcs]; exact hT1.2.2 x rfl) (by omega) (by rw [hcs]; exact bytes_oneCell l)
  obtain ⟨Y, hY⟩ : ∃ Y, Y = (M.toList.take 0 ++ cs ++ M.toList.drop (0 + cs.length)).toArray := ⟨_, rfl⟩
  rw [← hY, hcl] at hcp
  have hYl : Y.toList = cs := by
    rw [hY, List.toList_toArray, List.take_zero, List.nil_append, List.drop_of_length_le (by rw [Array.length_toList]; omega), List.append_nil]
  have hgY : ((w.alloc (.cells M 5)).setRow w.heap.size Y).heap[w.heap.size]? = some (.cells Y 5 (0, 0)) := setRow_heap _ _ M _ 5 (0, 0) (heap_alloc_new w _)
  have hb2 : Below w.heap.size w ((w.alloc (.cells M 5)).setRow w.heap.size Y) := below_setRow hb1 (Nat.le_refl _) _
  obtain ⟨W2, hW2⟩ : ∃ W2, W2 = (w.alloc (.cells M 5)).setRow w.heap.size Y := ⟨_, rfl⟩
  rw [← hW2] at hcp hgY hb2
  clear hW2 hY
  have hs : SliceIs W2 (.slice (some ⟨w.heap.size, 0, none⟩) len len) l := by
    refine .inr ⟨w.heap.size, 0, len, by rw [hT.1], by rw [hT.1]; exact Nat.le_refl _, fun j hj => ?_⟩
    rw [Nat.zero_add, cell_of_row W2 w.heap.size j Y 5 (0, 0) hgY]
    have e : Y[j]? = Y.toList[j]? := by simp
    rw [e, hYl, hcs, List.getElem?_map, List.getElem?_eq_getElem hj]
    rfl
  have hv2 : W2.cell? ⟨0, 0, none⟩ = some (.iface tp p) := (hb2.cell (show (⟨0, 0, none⟩ : Addr).block < w.heap.size from World.block_lt_of_cell? w _ hV)).trans hV
  have hz := zz6 _ _ tp p W2 hs hv2
  obtain ⟨u, ok, hE⟩ := escV_eq (escOf l)
  have hm := fun W' (hb : Below W2.heap.size W2 W') => model7 _ l W' (hs.on hb)
  rw [hE] at hz
  simp only [hE] at hm
  have HZ := Lib.hid hz
  have HM := Lib.hid hm
  have HB := Lib.hid hb2
  clear hz hm hb2 hv2 hs hgY hYl hcl hcs hT1 hb1 hMs hT hV hE
  go_enter Tryd.func3, Tryd.ntmps3
  go_wp2_with fail
  refine (bytes5_yes _ _ _ h _).mono ?_
  rintro e w' ⟨rfl, rfl⟩
  go_wp2_with fail
  refine HZ.out.mono ?_
  rintro e W3 ⟨rfl, hb3⟩
  have HB3 := Lib.hid hb3
  clear hb3
  go_wp2_with fail
  refine (HM.out _ HB3.out).mono ?_
  rintro e W4 ⟨rfl, rfl⟩
  go_wp2
  go_ret
  exact ⟨by simp, HB.out.trans (HB3.out.mono HB.out.size)⟩

/-- The whole function. -/
theorem law3 (a : Option Addr) (len cap : Nat) (l : List UInt8) (w : World) (hT : TailIs w a len cap l) (tp : TypeId) (p : Value) (hV : w.cell? ⟨0, 0, none⟩ = some (.iface tp p)) :
    Calls Tryd.prog 3 #[.slice a len cap] w fun e w' => e = .returned (.bool true) ∧ Below w.heap.size w w' := by
  by_cases h : len ≤ 1048576
  · cases a with
    | none =>
      obtain ⟨rfl, rfl⟩ := hT.2.1 rfl
      exact match_nil w
    | some x => exact match_some x len cap l h w hT tp p hV
  · clear hT hV
    go_enter Tryd.func3, Tryd.ntmps3
    go_wp2_with (go_at_call 5; refine (bytes5_no _ _ _ h _).mono ?_; rintro e w' ⟨rfl, rfl⟩)
    go_ret
    exact ⟨rfl, Below.refl _ _⟩
end Go.Proofs.Qxb6604098aDoor
