/-
  What one step of the reader meets in the path: plain facts on the row's cells.
-/
import Derived.Test.Qxb6602772aDoorRead
namespace Go.Proofs.Qxb6602772aDoor
open Go.RowKit

/-- The steps: each name's bytes with its index. -/
def steps (ss : List ByteArray) (zs : List Int) : List (List UInt8 × Int) := List.zipWith (fun s z => (s.data.toList, z)) ss zs
theorem steps_length {ss : List ByteArray} {zs : List Int} {N : Nat} (h1 : ss.length = N) (h2 : zs.length = N) : (steps ss zs).length = N := by
  rw [steps, List.length_zipWith, h1, h2, Nat.min_self]
theorem steps_at {ss : List ByteArray} {zs : List Int} {N k : Nat} (h1 : ss.length = N) (h2 : zs.length = N) (hk : k < N) : (steps ss zs)[k]'(by rw [steps_length h1 h2]; exact hk) = ((ss[k]'(by omega)).data.toList, zs[k]'(by omega)) := by
  unfold steps
  rw [List.getElem_zipWith]

/-- What is known of the k-th step. -/
structure AtStep (st : List (List UInt8 × Int)) (N k : Nat) (s : List UInt8) (z : Int) : Prop where
  split : ∃ r, pathK st N = pathK st k ++ piece (pathK st k) (s, z) ++ r ∧ (r = [] ∨ ∃ c cs, r = c :: cs ∧ (c = 46 ∨ c = 91))
  next : pathK st (k + 1) = pathK st k ++ piece (pathK st k) (s, z)
  plain : z < 0 → plainB s = true

theorem at_step {ss : List ByteArray} {zs : List Int} {N k : Nat} (h1 : ss.length = N) (h2 : zs.length = N) (hP : ∀ j (hj : j < (steps ss zs).length), (steps ss zs)[j].2 < 0 → plainB (steps ss zs)[j].1 = true) (hk : k < N) :
    AtStep (steps ss zs) N k (ss[k]'(by omega)).data.toList (zs[k]'(by omega)) := by
  have hsl := steps_length h1 h2
  have hk' : k < (steps ss zs).length := by rw [hsl]; exact hk
  have hat := steps_at h1 h2 hk
  have hs := pathK_split (st := steps ss zs) hk' (pathK_pos hP hk')
  have hn := pathK_succ (st := steps ss zs) hk'
  have hp := hP k hk'
  rw [hat] at hs hn hp
  obtain ⟨r, hr, hE⟩ := hs
  refine ⟨⟨r, ?_, hE⟩, hn, hp⟩
  rw [← hr, hsl]

theorem piece_index {p s : List UInt8} {u : Nat} : piece p (s, (u : Int)) = [91] ++ Lib.decDigits u ++ [93] := by
  unfold piece
  rw [if_pos (by simp), itoa_nat _ (by simp)]
  simp

/-- An index step: what readIndex answers, what the reader sees, where it goes on. -/
theorem index_facts {st : List (List UInt8 × Int)} {N k g n cap q u : Nat} {s : List UInt8} (h : AtStep st N k s (u : Int)) (hu : u ≤ 9223372036854775807) (hn : n = (pathK st N).length) (hlim : n ≤ 1073741824) (hq : q = (pathK st k).length) (w : World) (hrow : RowIs w g 0 (pathK st N)) :
    ∃ q2, q2 = (pathK st (k + 1)).length ∧ w.cell? ⟨g, q, none⟩ = some (.int .u8 91) ∧ (q : Int) < (n : Int) ∧ q2 ≤ n ∧
      Calls Tryd.prog 7 #[.slice (some ⟨g, 0, none⟩) n cap, .int .i64 (q : Int)] w fun e w' => e = .returned (.tuple #[.int .u64 (u : Int), .int .i64 (q2 : Int), .bool true]) ∧ w' = w := by
  obtain ⟨r, hr, -⟩ := h.split
  have hx := h.next
  rw [piece_index] at hr hx
  rw [hr] at hrow hn
  have h7 := read7 g n cap u (pathK st k) r hu hlim w hn.symm hrow
  rw [← hq] at h7
  have hl : (pathK st (k + 1)).length = q + ([91] ++ Lib.decDigits u ++ [93]).length := by rw [hx, List.length_append, hq]
  refine ⟨_, hl.symm, ?_, ?_, ?_, h7⟩
  · rw [hq]
    exact RowIs.part (l := pathK st k) (m := [91]) (r := Lib.decDigits u ++ [93] ++ r) (by simpa using hrow) 0 (by simp)
  · rw [hn, hq]; simp; omega
  · rw [hn, hq]; simp

/-- A member step: where its name begins (S), what stands there, what stands behind it. -/
theorem name_facts {st : List (List UInt8 × Int)} {N k g n q : Nat} {s : ByteArray} {z : Int} (h : AtStep st N k s.data.toList z) (hz : z < 0) (hn : n = (pathK st N).length) (hq : q = (pathK st k).length) (w : World) (hrow : RowIs w g 0 (pathK st N)) :
    (0 < q → w.cell? ⟨g, q, none⟩ = some (.int .u8 46) ∧ RowIs w g (q + 1) s.data.toList ∧ q + 1 + s.size ≤ n ∧ q + 1 + s.size = (pathK st (k + 1)).length ∧
      (q + 1 + s.size = n ∨ ∃ c : UInt8, w.cell? ⟨g, q + 1 + s.size, none⟩ = some (.int .u8 (c.toNat : Int)) ∧ (c.toNat = 46 ∨ c.toNat = 91) ∧ q + 1 + s.size < n)) ∧
    (¬ 0 < q → RowIs w g q s.data.toList ∧ q + s.size ≤ n ∧ q + s.size = (pathK st (k + 1)).length ∧
      (q + s.size = n ∨ ∃ c : UInt8, w.cell? ⟨g, q + s.size, none⟩ = some (.int .u8 (c.toNat : Int)) ∧ (c.toNat = 46 ∨ c.toNat = 91) ∧ q + s.size < n)) := by
  obtain ⟨r, hr, hE⟩ := h.split
  have hx := h.next
  have hK : s.data.toList.length = s.size := rfl
  constructor
  · intro h0
    have ep : piece (pathK st k) (s.data.toList, z) = [46] ++ s.data.toList := by
      unfold piece
      rw [if_neg (by simpa using hz), if_pos (by omega)]
    rw [ep] at hr hx
    rw [hr] at hrow hn
    have hnn : n = q + 1 + s.size + r.length := by rw [hn, hq, List.length_append, List.length_append, List.length_append, hK]; simp; omega
    refine ⟨?_, ?_, by omega, by rw [hx, List.length_append, List.length_append, hK, hq]; simp; omega, ?_⟩
    · rw [hq]
      exact RowIs.part (l := pathK st k) (m := [46]) (r := s.data.toList ++ r) (by simpa using hrow) 0 (by simp)
    · have := RowIs.part (l := pathK st k ++ [46]) (m := s.data.toList) (r := r) (by simpa using hrow)
      rw [List.length_append, ← hq] at this
      exact this
    · rcases hE with rfl | ⟨c, cs, rfl, hc⟩
      · left; simpa using hnn.symm
      · right
        have := RowIs.part (l := pathK st k ++ [46] ++ s.data.toList) (m := [c]) (r := cs) (by simpa using hrow) 0 (by simp)
        rw [List.length_append, List.length_append, ← hq, hK] at this
        refine ⟨c, this, ?_, by rw [hnn]; simp⟩
        rcases hc with rfl | rfl
        · exact .inl rfl
        · exact .inr rfl
  · intro h0
    have ep : piece (pathK st k) (s.data.toList, z) = s.data.toList := by
      unfold piece
      rw [if_neg (by simpa using hz), if_neg (by omega)]
    rw [ep] at hr hx
    rw [hr] at hrow hn
    have hnn : n = q + s.size + r.length := by rw [hn, hq, List.length_append, List.length_append, hK]
    refine ⟨?_, by omega, by rw [hx, List.length_append, hK, hq], ?_⟩
    · have := RowIs.part (l := pathK st k) (m := s.data.toList) (r := r) hrow
      rw [← hq] at this
      exact this
    · rcases hE with rfl | ⟨c, cs, rfl, hc⟩
      · left; simpa using hnn.symm
      · right
        have := RowIs.part (l := pathK st k ++ s.data.toList) (m := [c]) (r := cs) (by simpa using hrow) 0 (by simp)
        rw [List.length_append, ← hq, hK] at this
        refine ⟨c, this, ?_, by rw [hnn]; simp⟩
        rcases hc with rfl | rfl
        · exact .inl rfl
        · exact .inr rfl
end Go.Proofs.Qxb6602772aDoor
