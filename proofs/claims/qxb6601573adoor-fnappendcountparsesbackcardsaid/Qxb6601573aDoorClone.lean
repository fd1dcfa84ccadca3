/-
  cloneBytes: a new row of the same bytes, its capacity its length.
-/
import Derived.Test.Qxb6601573aDoorSmall
namespace Go.Proofs.Qxb6601573aDoor
open Go.RowKit

theorem Tryd.info5 : (Tryd.prog.info? 5).map (fun i => (i.zero, i.size, i.bytes)) = some (some (.int .u8 0), 1, 1) := by kernel_rfl

/-- What the walk is told of a slice that came in: its cells are the bytes l. -/
def ArgIs (w : World) (a : Option Addr) (len cap : Nat) (l : List UInt8) : Prop :=
  l.length = len ∧ (a = none → len = 0 ∧ cap = 0) ∧ ∀ ad, a = some ad → ∀ j (hj : j < l.length), w.cell? (ad.add j) = some (.int .u8 (l[j].toNat : Int))

/-- A clone: nil, or a row of its own from block B on, full. -/
def CloneIs (w : World) (B : Nat) (v : Value) (l : List UInt8) : Prop :=
  (l = [] ∧ v = .slice none 0 0) ∨ ∃ g, v = .slice (some ⟨g, 0, none⟩) l.length l.length ∧ B ≤ g ∧ g < w.heap.size ∧ RowIs w g 0 l

def cells (l : List UInt8) : List Value := l.map fun c => Value.int .u8 (c.toNat : Int)

/-- The row half filled. -/
def half (l : List UInt8) (k : Nat) : List Value := cells (l.take k) ++ List.replicate (l.length - k) (.int .u8 0)

theorem half_zero (l : List UInt8) : half l 0 = List.replicate l.length (.int .u8 0) := by simp [half, cells]
theorem half_full (l : List UInt8) : half l l.length = cells l := by simp [half]
theorem half_length (l : List UInt8) (k : Nat) (hk : k ≤ l.length) : (half l k).length = l.length := by simp [half, cells]; omega
theorem half_set (l : List UInt8) (k : Nat) (hk : k < l.length) : (half l k).set k (.int .u8 (l[k].toNat : Int)) = half l (k + 1) := by
  unfold half
  have e1 : (cells (l.take k)).length = k := by simp [cells]; omega
  rw [List.set_append_right _ _ (by omega), e1, Nat.sub_self]
  have e2 : l.length - k = (l.length - (k + 1)) + 1 := by omega
  rw [e2, List.replicate_succ, List.set_cons_zero]
  have e3 : cells (l.take (k + 1)) = cells (l.take k) ++ [.int .u8 (l[k].toNat : Int)] := by
    unfold cells
    rw [List.take_add_one, List.getElem?_eq_getElem hk, List.map_append]
    rfl
  rw [e3, List.append_assoc]
  rfl

set_option maxHeartbeats 1000000 in
theorem clone_nil (w : World) :
    Calls Tryd.prog 6 #[.slice none 0 0] w fun e w' => e = .returned (.slice none 0 0) ∧ w' = w := by
  have hnil := fun W => Lib.run_eql_slice_nil (P := Tryd.prog) W 22 5 none 0 0 0 0 Tryd.underlying22
  go_enter Tryd.func6, Tryd.ntmps6
  go_wp2
  go_ret
  exact ⟨rfl, rfl⟩

set_option maxHeartbeats 1000000 in
theorem clone_zero (x : Addr) (cap : Nat) (w : World) :
    Calls Tryd.prog 6 #[.slice (some x) 0 cap] w fun e w' => e = .returned (.slice (some ⟨w.heap.size, 0, none⟩) 0 0) ∧ w'.ownsRow w.heap.size 5 1 (.slice (some ⟨w.heap.size, 0, none⟩) 0 0) 0 [] ∧ Below w.heap.size w w' := by
  have hnil := fun W => Lib.run_eql_slice_nil (P := Tryd.prog) W 22 5 (some x) 0 cap 0 0 Tryd.underlying22
  obtain ⟨i, hi, hz0, hz1, hz2⟩ := info_parts Tryd.info5
  go_enter Tryd.func6, Tryd.ntmps6
  go_wp2_with (at_make; go_must (refine wpList_make_full _ rfl _ _ 22 rfl w.heap.size 5 i _ 1 Tryd.underlying22 hi hz0 hz1 _ _ _ _ 0 rfl rfl rfl rfl (by rw [hz2]; omega) (by unfold maxLen; omega) (Nat.le_refl _) ?_))
  intro w1 hown1 hg1
  have hb1 : Below w.heap.size w w1 := (Below.refl _ _).grown hg1 (Nat.le_refl _) (fun k hk => by cases hk)
  have HO : Hid (w1.ownsRow w.heap.size 5 1 (.slice (some ⟨w.heap.size, 0, none⟩) 0 0) 0 []) := by
    have e : (madeCells #[Value.int IntKind.u8 0] 0).toList = [] := by rw [toList_madeCells_one]; rfl
    rw [e] at hown1
    exact hown1
  have HB := Lib.hid hb1
  clear hown1 hb1 hg1
  go_wp2
  go_loop [4] (fun i => i = .int .i64 0) (fun _ => 0)
  case atStart => rfl
  case round =>
    subst hrel
    go_wp2
    go_ret
    exact ⟨rfl, HO.out, HB.out⟩

set_option maxHeartbeats 1000000 in
theorem clone_some (b o len cap : Nat) (l : List UInt8) (hl : l.length = len) (hlim : len ≤ 1048576) (w : World) (hr : RowIs w b o l) :
    Calls Tryd.prog 6 #[.slice (some ⟨b, o, none⟩) len cap] w fun e w' => e = .returned (.slice (some ⟨w.heap.size, 0, none⟩) len len) ∧ w'.ownsRow w.heap.size 5 1 (.slice (some ⟨w.heap.size, 0, none⟩) len len) len (cells l) ∧ Below w.heap.size w w' := by
  have hnil := fun W => Lib.run_eql_slice_nil (P := Tryd.prog) W 22 5 (some ⟨b, o, none⟩) len cap 0 0 Tryd.underlying22
  obtain ⟨i, hi, hz0, hz1, hz2⟩ := info_parts Tryd.info5
  have HR := Lib.hid hr
  have HL := Lib.hid hl
  clear hr hl
  go_enter Tryd.func6, Tryd.ntmps6
  go_wp2_with (at_make; go_must (refine wpList_make_full _ rfl _ _ 22 rfl w.heap.size 5 i _ 1 Tryd.underlying22 hi hz0 hz1 _ _ _ _ len rfl rfl rfl rfl (by rw [hz2]; omega) (by unfold maxLen; omega) (Nat.le_refl _) ?_))
  intro w1 hown1 hg1
  have hb1 : Below w.heap.size w w1 := (Below.refl _ _).grown hg1 (Nat.le_refl _) (fun k hk => by cases hk)
  have HO : Hid (w1.ownsRow w.heap.size 5 1 (.slice (some ⟨w.heap.size, 0, none⟩) len len) len (half l 0)) := by
    rw [half_zero, HL.out, ← toList_madeCells_one]
    exact hown1
  have HB := Lib.hid hb1
  clear hown1 hb1 hg1
  go_wp2
  go_loopw [4] (fun i wr => ∃ k : Nat, k ≤ len ∧ i = .int .i64 k ∧ Hid (wr.ownsRow w.heap.size 5 1 (.slice (some ⟨w.heap.size, 0, none⟩) len len) len (half l k)) ∧ Hid (Below w.heap.size w wr)) (fun i _ => len - (intOf i).toNat)
  case atStart => exact ⟨0, Nat.zero_le _, rfl, HO, HB⟩
  case round =>
    obtain ⟨k, hk, rfl, ho, hb⟩ := hrel
    by_cases hlt : k < len
    · have hlen := HL.out
      have hc0 := HR.out k (by omega)
      have hc : wr.cell? ⟨b, o + k, none⟩ = some (.int .u8 ((l[k]'(by omega)).toNat : Int)) := (hb.out.cell (World.block_lt_of_cell? w _ hc0)).trans hc0
      have hold := ho.out.cellAt k (by omega)
      have hfr := ho.out.frozenAt k
      obtain ⟨v, hv⟩ : ∃ v, wr.cell? ⟨w.heap.size, k, none⟩ = some v := by
        rw [hold, List.getElem?_eq_getElem (by rw [half_length l k (by omega)]; omega)]
        exact ⟨_, rfl⟩
      have hst := ho.out.stored k (.int .u8 ((l[k]'(by omega)).toNat : Int))
      rw [half_set l k (by omega)] at hst
      have HS := Lib.hid hst
      clear hst hold hc0
      generalize (l[k]'(by omega)) = c at hc HS
      have hi : (k : Int) < (len : Int) := by omega
      clear hlen
      go_wp2
      go_roundw
      case rel => exact ⟨k + 1, by omega, by go_num, HS.out.1, hb.out.grown HS.out.2 hb.out.size (fun k hk => by cases hk; omega)⟩
      case measure => simp [intOf]; omega
    · have hkk : k = len := by omega
      subst hkk
      go_wp2
      go_ret
      refine ⟨rfl, ?_, hb.out⟩
      have := ho.out
      rw [← HL.out, half_full, HL.out] at this
      exact this

theorem cells_at {w : World} {B g n cap : Nat} {l : List UInt8} (h : w.ownsRow B 5 1 (.slice (some ⟨g, 0, none⟩) n cap) n (cells l)) : RowIs w g 0 l := fun j hj => by
  have hl : l.length = n := by
    have := h.1
    rw [cells, List.length_map] at this
    omega
  rw [Nat.zero_add, h.cellAt j (by omega), cells, List.getElem?_map, List.getElem?_eq_getElem hj]
  rfl

/-- cloneBytes at whatever slice. -/
theorem clone6 (a : Option Addr) (len cap : Nat) (l : List UInt8) (hlim : len ≤ 1048576) (w : World) (h : ArgIs w a len cap l) :
    Calls Tryd.prog 6 #[.slice a len cap] w fun e w' => ∃ v, e = .returned v ∧ CloneIs w' w.heap.size v l ∧ Below w.heap.size w w' := by
  cases a with
  | none =>
    obtain ⟨rfl, rfl⟩ := h.2.1 rfl
    refine (clone_nil w).mono ?_
    rintro e w' ⟨rfl, rfl⟩
    exact ⟨_, rfl, .inl ⟨List.eq_nil_of_length_eq_zero h.1, rfl⟩, Below.refl _ _⟩
  | some x =>
    by_cases h0 : len = 0
    · subst h0
      have hl : l = [] := List.eq_nil_of_length_eq_zero h.1
      refine (clone_zero x cap w).mono ?_
      rintro e w' ⟨rfl, ho, hb⟩
      have hlt := (ho.lt w.heap.size rfl).2
      exact ⟨_, rfl, .inr ⟨w.heap.size, by rw [hl]; rfl, Nat.le_refl _, hlt, by rw [hl]; intro j hj; simp at hj⟩, hb⟩
    · obtain ⟨b, o, sp⟩ := x
      have hc := h.2.2 _ rfl 0 (by rw [h.1]; omega)
      have hspot : sp = none := by simpa [Addr.add] using World.cell?_spot hc
      subst hspot
      have hr : RowIs w b o l := fun j hj => by
        have := h.2.2 _ rfl j hj
        rw [Addr.add_lit] at this
        exact this
      refine (clone_some b o len cap l h.1 hlim w hr).mono ?_
      rintro e w' ⟨rfl, ho, hb⟩
      have hlt := (ho.lt w.heap.size rfl).2
      exact ⟨_, rfl, .inr ⟨w.heap.size, by rw [h.1], Nat.le_refl _, hlt, cells_at ho⟩, hb⟩

theorem CloneIs.arg {w : World} {B : Nat} {v : Value} {l : List UInt8} (h : CloneIs w B v l) : ∃ a, v = .slice a l.length l.length ∧ ArgIs w a l.length l.length l := by
  rcases h with ⟨rfl, rfl⟩ | ⟨g, rfl, _, _, hr⟩
  · exact ⟨none, rfl, rfl, fun _ => ⟨rfl, rfl⟩, fun ad e => by cases e⟩
  · refine ⟨_, rfl, rfl, (fun e => by cases e), fun ad e j hj => ?_⟩
    cases e
    rw [Addr.add_lit]
    exact hr j hj
theorem CloneIs.slice {w : World} {B : Nat} {v : Value} {l : List UInt8} (h : CloneIs w B v l) : SliceIs w v l := by
  rcases h with ⟨rfl, rfl⟩ | ⟨g, rfl, _, _, hr⟩
  · exact .inl ⟨rfl, _, _, rfl⟩
  · exact .inr ⟨g, 0, _, rfl, Nat.le_refl _, hr⟩
theorem ArgIs.on {w w' : World} {a : Option Addr} {len cap : Nat} {l : List UInt8} (h : ArgIs w a len cap l) (hb : Below w.heap.size w w') : ArgIs w' a len cap l :=
  ⟨h.1, h.2.1, fun ad e j hj => by
    have hc := h.2.2 ad e j hj
    exact (hb.cell (World.block_lt_of_cell? w _ hc)).trans hc⟩
end Go.Proofs.Qxb6601573aDoor
