/-
  AppendKey at one part, onto a slice that is full.
-/
import Derived.Test.Qxb6601573aDoorClone
import Derived.ArgAppend
import Derived.WalkSmall
import Derived.Lib.AppendStr
namespace Go.Proofs.Qxb6601573aDoor
open Go.RowKit

theorem owns_mono {w : World} {B B' : Nat} {v : Value} {n : Nat} {xs : List Value} (h : w.ownsRow B 5 1 v n xs) (hB : B' ≤ B) : w.ownsRow B' 5 1 v n xs :=
  ⟨h.1, Or.elim h.2 (fun q => Or.inl q) fun ⟨g, cap, cur, e, hb, r⟩ => Or.inr ⟨g, cap, cur, e, Nat.le_trans hB hb, r⟩⟩

theorem cells_one (l : List UInt8) : ∀ u ∈ cells l, u.oneCell' = true := by
  intro u hu
  obtain ⟨c, _, rfl⟩ := List.mem_map.1 hu
  rfl
theorem cells_length (l : List UInt8) : (cells l).length = l.length := by simp [cells]
theorem cells_append (l r : List UInt8) : cells (l ++ r) = cells l ++ cells r := by simp [cells]

theorem one_new (w : World) (x : Value) (t : TypeId) : ∀ j u, [x][j]? = some u → (w.alloc (.cells #[x] t)).cell? ((⟨w.heap.size, 0, none⟩ : Addr).add j) = some u := by
  intro j u hj
  match j, hj with
  | 0, hj => simp at hj; subst hj; simp [Addr.add]
  | j + 1, hj => simp at hj

theorem ArgIs.olds {w : World} {a : Option Addr} {len cap : Nat} {l : List UInt8} (h : ArgIs w a len cap l) : ∀ b, a = some b → ∀ j u, (cells l)[j]? = some u → w.cell? (b.add j) = some u := by
  intro b e j u hu
  rw [cells, List.getElem?_map, Option.map_eq_some_iff] at hu
  obtain ⟨c, hc, rfl⟩ := hu
  obtain ⟨hj, hc⟩ := List.getElem?_eq_some_iff.1 hc
  rw [← hc]
  exact h.2.2 b e j hj

set_option maxHeartbeats 2000000 in
theorem key12 (a : Option Addr) (len kb : Nat) (l : List UInt8) (key : ByteArray) (hlim : len ≤ 1048576) (hk : key.size ≤ 1048576) (w : World) (hA : ArgIs w a len len l) (hkey : w.cell? ⟨kb, 0, none⟩ = some (.string key)) :
    Calls Tryd.prog 12 #[.slice a len len, .slice (some ⟨kb, 0, none⟩) 1 1] w fun e w' => ∃ v, e = .returned v ∧ w'.ownsRow w.heap.size 5 1 v (len + 1 + key.size + 1) (cells (l ++ [32] ++ key.data.toList ++ [61])) ∧ Below w.heap.size w w' := by
  obtain ⟨i, hi, hz0, hz1, hz2⟩ := info_parts Tryd.info5
  have hb0 : Below w.heap.size w (w.alloc (.cells #[.int .u8 32] 5)) := (Below.refl _ _).alloc (Nat.le_refl _) _
  have HA := Lib.hid (hA.on hb0)
  have HK := Lib.hid hkey
  have HB0 := Lib.hid hb0
  clear hA hkey hb0
  go_enter Tryd.func12, Tryd.ntmps12
  go_wp2_with (at_builtin; go_must (refine wpList_append_grows _ rfl _ _ 22 rfl 5 i _ 1 1 Tryd.underlying22 hi hz0 hz1 hz2 rfl (by decide) a len len (cells l) rfl HA.out.2.1 (by rw [cells_length, HA.out.1]; omega) HA.out.olds _ 1 1 [.int .u8 32] rfl rfl (one_new _ _ _) (by simp [Value.oneCell']) (by omega) (by unfold maxLen; omega) (by omega) ?_))
  intro v1 w1 hown1 hg1
  have hb1 : Below w.heap.size w w1 := HB0.out.grown hg1 (by simp) (fun k hk => by cases hk)
  have ho1 : w1.ownsRow w.heap.size 5 1 v1 (len + 1) (cells (l ++ [32])) := by
    rw [cells_append]
    exact owns_mono hown1 (by simp)
  have hkey1 : w1.cell? ⟨kb, 0, none⟩ = some (.string key) := (hb1.cell (World.block_lt_of_cell? w _ HK.out)).trans HK.out
  have HO1 := Lib.hid ho1
  have HB1 := Lib.hid hb1
  clear hown1 hg1 hb1 ho1
  go_wp2
  go_loopw [0, 12] (fun v i wr => ∃ k : Nat, i = .int .i64 k ∧ Hid ((k = 0 ∧ v = v1 ∧ wr = w1) ∨ (k = 1 ∧ wr.ownsRow w.heap.size 5 1 v (len + 1 + key.size) (cells (l ++ [32] ++ key.data.toList)) ∧ Below w.heap.size w wr))) (fun _ i _ => 1 - (intOf i).toNat)
  case atStart => exact ⟨0, rfl, .inl ⟨rfl, rfl, rfl⟩⟩
  case round =>
    obtain ⟨k, rfl, hh⟩ := hrel
    rcases hh.out with ⟨rfl, rfl, rfl⟩ | ⟨rfl, ho, hb⟩
    · clear hh
      go_wp2_with (at_builtin; go_must (refine Lib.wpList_append_own_string _ rfl _ _ 22 9 rfl w.heap.size 5 i Tryd.underlying22 Tryd.underlying9 hi hz0 hz1 hz2 _ (len + 1) _ rfl HO1.out key rfl (by unfold maxLen; omega) (by omega) HB1.out.size ?_))
      intro v2 w2 hown2 hg2 _
      have hb2 : Below w.heap.size w w2 := HB1.out.grown hg2 HB1.out.size (fun k hk => (HO1.out.lt k hk).1)
      have ho2 : w2.ownsRow w.heap.size 5 1 v2 (len + 1 + key.size) (cells (l ++ [32] ++ key.data.toList)) := by
        rw [cells_append]
        exact hown2
      have HO2 := Lib.hid ho2
      have HB2 := Lib.hid hb2
      clear hown2 hg2 hb2 ho2
      go_wp2
      go_roundw
      case rel => exact ⟨1, rfl, .inr ⟨rfl, HO2.out, HB2.out⟩⟩
      case measure => simp [intOf]
    · clear hh
      have HO := Lib.hid ho
      have HB := Lib.hid hb
      clear ho hb
      go_wp2_with (at_builtin; go_must (refine wpList_append_own _ rfl _ _ 22 rfl w.heap.size 5 i _ 1 1 Tryd.underlying22 hi hz0 hz1 hz2 rfl (by decide) _ (len + 1 + key.size) _ rfl (HO.out.alloc _) _ 1 1 [.int .u8 61] rfl rfl (one_new _ _ _) (by simp [Value.oneCell']) (by unfold maxLen; omega) (by omega) (by have := HB.out.size; simp; omega) ?_))
      intro v3 w3 hown3 hg3 _
      have hb3 : Below w.heap.size w w3 := (HB.out.alloc HB.out.size _).grown hg3 (by have := HB.out.size; simp; omega) (fun k hk => (HO.out.lt k hk).1)
      have ho3 : w3.ownsRow w.heap.size 5 1 v3 (len + 1 + key.size + 1) (cells (l ++ [32] ++ key.data.toList ++ [61])) := by
        have e : l ++ [32] ++ key.data.toList = l ++ 32 :: key.data.toList := by simp
        rw [cells_append _ [61], e]
        exact hown3
      have HO3 := Lib.hid ho3
      have HB3 := Lib.hid hb3
      clear hown3 hg3 hb3 ho3
      go_wp2
      go_ret
      exact ⟨_, rfl, HO3.out, HB3.out⟩
end Go.Proofs.Qxb6601573aDoor
