/-
  AppendCount at a pointer that is not nil, onto a slice that is full.
-/
import Derived.Test.Qxb6601573aDoorKey
import Derived.Test.Qxb6601573aDoorShelf
import Derived.RegionTactic
import Derived.Deep.RegionWith
namespace Go.Proofs.Qxb6601573aDoor
open Go.RowKit

set_option maxHeartbeats 2000000 in
theorem count7 (a : Option Addr) (len nb no : Nat) (l : List UInt8) (key : ByteArray) (n : Int) (hn0 : -9223372036854775808 ≤ n) (hn1 : n ≤ 9223372036854775807) (hlim : len ≤ 1048576) (hk : key.size ≤ 1048576) (w : World) (hA : ArgIs w a len len l)
    (hn : w.cell? ⟨nb, no, none⟩ = some (.int .i64 n)) (htab : Lib.TabBelow Tryd.prog w.heap.size w Tryd.powName .u64 Lib.pow10Tab) :
    Calls Tryd.prog 7 #[.slice a len len, .string key, .pointer (some ⟨nb, no, none⟩)] w fun e w' => ∃ v, e = .returned v ∧ w'.ownsRow w.heap.size 5 1 v (len + 1 + key.size + 1 + (Lib.itoa n).length) (cells (l ++ [32] ++ key.data.toList ++ [61] ++ Lib.itoa n)) ∧ Below w.heap.size w w' := by
  have hb0 : Below w.heap.size w (w.alloc (.cells #[.string key] 9)).drew := ((Below.refl _ _).alloc (Nat.le_refl _) _).drew
  have h12 := key12 a len w.heap.size l key hlim hk (w.alloc (.cells #[.string key] 9)).drew (hA.on hb0) (by simp)
  have H12 : Hid (∀ Q : Ending → World → Prop, (∀ v w2, w2.ownsRow w.heap.size 5 1 v (len + 1 + key.size + 1) (cells (l ++ [32] ++ key.data.toList ++ [61])) → Below w.heap.size w w2 → Q (.returned v) w2) →
      Calls Tryd.prog 12 #[.slice a len len, .slice (some ⟨w.heap.size, 0, none⟩) 1 1] (w.alloc (.cells #[.string key] 9)).drew Q) := fun Q hQ => h12.mono fun e w2 ⟨v, he, ho, hb⟩ => by
    subst he
    exact hQ v w2 (owns_mono ho (by simp)) (hb0.trans (hb.mono (by simp)))
  have hcell : Hid (∀ w2, Below w.heap.size w w2 → w2.cell? ⟨nb, no, none⟩ = some (.int .i64 n)) := fun w2 hb => (hb.cell (World.block_lt_of_cell? w _ hn)).trans hn
  have hnA : ∀ o, (w.alloc o).cell? ⟨nb, no, none⟩ = some (.int .i64 n) := fun o => hcell.out _ ((Below.refl _ _).alloc (Nat.le_refl _) _)
  have HT := Lib.hid htab
  clear hA htab h12 hb0
  go_enter Tryd.func7, Tryd.ntmps7
  go_wp2
  go_region_with (first
    | (go_at_call 12; refine H12.out _ ?_; intro v2 w2 ho2 hb2; have hn2 := hcell.out w2 hb2; have HO2 := Lib.hid ho2; have HB2 := Lib.hid hb2; clear ho2 hb2)
    | (go_at_call 11; go_must (refine (Tryd.strconv_AppendInt_10 w.heap.size (len + 1 + key.size + 1) n hn0 hn1 _ _ _ (by exact HO2.out) (by exact HB2.out.size) (by omega) (by exact HT.out.on HB2.out)).mono ?_); rintro e w3 ⟨v3, rfl, ho3, hb3, _⟩; have HO3 := Lib.hid ho3; have HB3 := Lib.hid hb3; clear ho3 hb3))
  all_goals go_wp2
  all_goals go_ret
  all_goals exact ⟨v3, rfl, by simpa [cells, Lib.byteCells] using HO3.out, HB2.out.trans HB3.out⟩
end Go.Proofs.Qxb6601573aDoor
