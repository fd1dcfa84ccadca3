/-
  Plain facts on decimal numerals and on lists of bytes. No Go in sight.
-/
import Derived.Lib.ItoaNum
import Derived.Lib.ItoaLen
namespace Go.Proofs.Qxb6602772aDoor
open Go.Lib

/-- What a digit adds. -/
def dv (c : UInt8) : Nat := c.toNat - 48

/-- The number that digits write behind acc. -/
def decF (acc : Nat) (l : List UInt8) : Nat := l.foldl (fun a c => a * 10 + dv c) acc

theorem decF_nil (acc : Nat) : decF acc [] = acc := by unfold decF; rw [List.foldl_nil]
theorem decF_cons (acc : Nat) (c : UInt8) (cs : List UInt8) : decF acc (c :: cs) = decF (acc * 10 + (c.toNat - 48)) cs := by
  unfold decF; rw [List.foldl_cons, dv]
theorem decF_append (l r : List UInt8) (acc : Nat) : decF acc (l ++ r) = decF (decF acc l) r := by
  unfold decF; rw [List.foldl_append]

theorem decF_ge (l : List UInt8) : ∀ acc : Nat, acc ≤ decF acc l := by
  induction l with
  | nil => intro acc; rw [decF_nil]; exact Nat.le_refl _
  | cons c cs ih =>
    intro acc
    have := ih (acc * 10 + (c.toNat - 48))
    rw [decF_cons]
    omega

theorem digit_toNat (d : Nat) (h : d < 10) : (UInt8.ofNat (48 + d)).toNat = 48 + d := by rw [UInt8.toNat_ofNat']; omega

theorem decF_decDigits (u : Nat) : decF 0 (decDigits u) = u := by
  induction u using Nat.strongRecOn with
  | ind u ih =>
    rw [decDigits]
    by_cases h : u < 10
    · rw [dif_pos h]
      rw [decF_cons, digit_toNat u h]
      rw [decF_nil]
      omega
    · rw [dif_neg h, decF_append, ih (u / 10) (by omega)]
      rw [decF_cons, digit_toNat (u % 10) (by omega)]
      rw [decF_nil]
      omega

theorem decDigits_digit (u : Nat) : ∀ c ∈ decDigits u, 48 ≤ c.toNat ∧ c.toNat ≤ 57 := by
  induction u using Nat.strongRecOn with
  | ind u ih =>
    rw [decDigits]
    by_cases h : u < 10
    · rw [dif_pos h]
      intro c hc
      rw [List.mem_singleton.1 hc, digit_toNat u h]
      omega
    · rw [dif_neg h]
      intro c hc
      rcases List.mem_append.1 hc with hc | hc
      · exact ih (u / 10) (by omega) c hc
      · rw [List.mem_singleton.1 hc, digit_toNat (u % 10) (by omega)]
        omega

theorem decDigits_head (u : Nat) : ∃ c cs, decDigits u = c :: cs ∧ (1 ≤ u → c.toNat ≠ 48) := by
  induction u using Nat.strongRecOn with
  | ind u ih =>
    rw [decDigits]
    by_cases h : u < 10
    · rw [dif_pos h]
      exact ⟨_, _, rfl, fun hu => by rw [digit_toNat u h]; omega⟩
    · rw [dif_neg h]
      obtain ⟨c, cs, e, hc⟩ := ih (u / 10) (by omega)
      exact ⟨c, cs ++ [UInt8.ofNat (48 + u % 10)], by rw [e]; rfl, fun _ => hc (by omega)⟩

theorem decDigits_zero : decDigits 0 = [48] := by rw [decDigits, dif_pos (by omega)]; rfl

/-- What the loop of the reader knows at its k-th digit. -/
theorem dec_step {bs : List UInt8} {u acc k : Nat} (hk : k < bs.length) (h : decF acc (bs.drop k) = u) (hd : ∀ c ∈ bs, 48 ≤ c.toNat ∧ c.toNat ≤ 57) :
    48 ≤ bs[k].toNat ∧ bs[k].toNat ≤ 57 ∧ acc * 10 + (bs[k].toNat - 48) ≤ u ∧ decF (acc * 10 + (bs[k].toNat - 48)) (bs.drop (k + 1)) = u := by
  have hm := hd _ (List.getElem_mem hk)
  rw [List.drop_eq_getElem_cons hk] at h
  rw [decF_cons] at h
  have := decF_ge (bs.drop (k + 1)) (acc * 10 + (bs[k].toNat - 48))
  exact ⟨hm.1, hm.2, by omega, h⟩

theorem itoa_nat (n : Int) (h : 0 ≤ n) : itoa n = decDigits n.toNat := by unfold itoa; rw [if_neg (by omega)]

/-- What one step appends to the path p. -/
def piece (p : List UInt8) (s : List UInt8 × Int) : List UInt8 := if 0 ≤ s.2 then [91] ++ itoa s.2 ++ [93] else if 0 < p.length then [46] ++ s.1 else s.1
def stepB (p : List UInt8) (s : List UInt8 × Int) : List UInt8 := p ++ piece p s
/-- The path of the first k steps. -/
def pathK (st : List (List UInt8 × Int)) (k : Nat) : List UInt8 := (st.take k).foldl stepB []

theorem pathK_zero (st : List (List UInt8 × Int)) : pathK st 0 = [] := by unfold pathK; rw [List.take_zero, List.foldl_nil]
theorem pathK_succ {st : List (List UInt8 × Int)} {k : Nat} (hk : k < st.length) : pathK st (k + 1) = pathK st k ++ piece (pathK st k) st[k] := by
  unfold pathK
  rw [List.take_add_one, List.getElem?_eq_getElem hk, Option.toList_some, List.foldl_append, List.foldl_cons, List.foldl_nil]
  rfl

theorem fold_grows (st : List (List UInt8 × Int)) : ∀ p : List UInt8, p ≠ [] → ∃ r, st.foldl stepB p = p ++ r ∧ (r = [] ∨ ∃ c cs, r = c :: cs ∧ (c = 46 ∨ c = 91)) := by
  induction st with
  | nil => intro p _; exact ⟨[], by rw [List.foldl_nil, List.append_nil], .inl rfl⟩
  | cons s st ih =>
    intro p hp
    obtain ⟨r, hr, _⟩ := ih (p ++ piece p s) (by simp [hp])
    refine ⟨piece p s ++ r, by rw [List.foldl_cons, stepB, hr, List.append_assoc], .inr ?_⟩
    have hl : 0 < p.length := by
      cases p with
      | nil => exact absurd rfl hp
      | cons a b => simp
    unfold piece
    by_cases h : 0 ≤ s.2
    · rw [if_pos h]; exact ⟨91, _, rfl, .inr rfl⟩
    · rw [if_neg h, if_pos hl]; exact ⟨46, _, rfl, .inl rfl⟩

/-- The whole path, seen from its k-th step on. -/
theorem pathK_split {st : List (List UInt8 × Int)} {k : Nat} (hk : k < st.length) (hne : pathK st (k + 1) ≠ []) :
    ∃ r, pathK st st.length = pathK st k ++ piece (pathK st k) st[k] ++ r ∧ (r = [] ∨ ∃ c cs, r = c :: cs ∧ (c = 46 ∨ c = 91)) := by
  have e : pathK st st.length = (st.drop (k + 1)).foldl stepB (pathK st (k + 1)) := by
    unfold pathK
    rw [List.take_length, ← List.foldl_append, List.take_append_drop]
  obtain ⟨r, hr, h⟩ := fold_grows (st.drop (k + 1)) (pathK st (k + 1)) hne
  exact ⟨r, by rw [e, hr, pathK_succ hk], h⟩

def sumL (st : List (List UInt8 × Int)) : Nat := (st.map fun s => s.1.length).sum

theorem piece_le (p : List UInt8) (s : List UInt8 × Int) (h0 : -9223372036854775808 ≤ s.2) (h1 : s.2 ≤ 9223372036854775807) : (piece p s).length ≤ 23 + s.1.length := by
  have := itoa_length_le s.2 h0 h1
  unfold piece
  split
  · simp; omega
  · split
    · simp; omega
    · omega

theorem sumL_succ {st : List (List UInt8 × Int)} {k : Nat} (hk : k < st.length) : sumL (st.take (k + 1)) = sumL (st.take k) + st[k].1.length := by
  unfold sumL
  rw [List.take_add_one, List.getElem?_eq_getElem hk, Option.toList_some, List.map_append, List.sum_append, List.map_cons, List.map_nil, List.sum_cons, List.sum_nil, Nat.add_zero]

theorem sumL_take_le (st : List (List UInt8 × Int)) (k : Nat) : sumL (st.take k) ≤ sumL st := by
  have e : sumL st = sumL (st.take k) + sumL (st.drop k) := by
    unfold sumL
    rw [← List.sum_append, ← List.map_append, List.take_append_drop]
  omega

theorem pathK_le (st : List (List UInt8 × Int)) (hb : ∀ s ∈ st, -9223372036854775808 ≤ s.2 ∧ s.2 ≤ 9223372036854775807) : ∀ k, k ≤ st.length → (pathK st k).length ≤ 23 * k + sumL (st.take k) := by
  intro k
  induction k with
  | zero => intro _; rw [pathK_zero]; simp
  | succ k ih =>
    intro hk
    have h1 := ih (by omega)
    have hm := hb st[k] (List.getElem_mem (by omega))
    have h2 := piece_le (pathK st k) st[k] hm.1 hm.2
    rw [pathK_succ (by omega), List.length_append, sumL_succ (by omega)]
    omega

/-- A name that the law lets by. -/
def plainB (s : List UInt8) : Bool := !s.isEmpty && s.all (fun c => c.toNat != 46 && c.toNat != 91)

theorem piece_ne {p : List UInt8} {s : List UInt8 × Int} (h : s.2 < 0 → plainB s.1 = true) : piece p s ≠ [] := by
  unfold piece
  by_cases h0 : 0 ≤ s.2
  · rw [if_pos h0]; simp
  · rw [if_neg h0]
    have := h (by omega)
    split
    · simp
    · intro e
      rw [e] at this
      simp [plainB] at this

theorem pathK_pos {st : List (List UInt8 × Int)} (h : ∀ k (hk : k < st.length), st[k].2 < 0 → plainB st[k].1 = true) {k : Nat} (hk : k < st.length) : pathK st (k + 1) ≠ [] := by
  rw [pathK_succ hk]
  intro e
  exact piece_ne (h k hk) (List.append_eq_nil_iff.1 e).2

/-- The path is empty before the first step alone. -/
theorem pathK_len {st : List (List UInt8 × Int)} (h : ∀ k (hk : k < st.length), st[k].2 < 0 → plainB st[k].1 = true) {k : Nat} (hk : k ≤ st.length) (h1 : 1 ≤ k) : 1 ≤ (pathK st k).length := by
  obtain ⟨j, rfl⟩ : ∃ j, k = j + 1 := ⟨k - 1, by omega⟩
  have := pathK_pos h (k := j) (by omega)
  cases e : pathK st (j + 1) with
  | nil => exact absurd e this
  | cons a b => simp

theorem plain_at {s : List UInt8} (h : plainB s = true) {j : Nat} (hj : j < s.length) : ¬ s[j].toNat = 46 ∧ ¬ s[j].toNat = 91 := by
  unfold plainB at h
  rw [Bool.and_eq_true, List.all_eq_true] at h
  have := h.2 _ (List.getElem_mem hj)
  simpa using this
theorem plain_len {s : List UInt8} (h : plainB s = true) : 1 ≤ s.length := by
  cases s with
  | nil => simp [plainB] at h
  | cons a b => simp
end Go.Proofs.Qxb6602772aDoor
