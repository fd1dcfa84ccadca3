/-
  Plain facts on decimal numerals and on lists of bytes. No Go in sight.
-/
import Derived.Lib.ItoaNum
import Derived.Lib.ItoaLen
namespace Go.Proofs.Qxb6601573aDoor
open Go.Lib

/-- What a digit adds. -/
def dv (c : UInt8) : Nat := c.toNat - 48

/-- The number that digits write behind acc. -/
def decF (acc : Nat) (l : List UInt8) : Nat := l.foldl (fun a c => a * 10 + dv c) acc

theorem decF_nil (acc : Nat) : decF acc [] = acc := by unfold decF; rw [List.foldl_nil]
theorem decF_cons (acc : Nat) (c : UInt8) (cs : List UInt8) : decF acc (c :: cs) = decF (acc * 10 + (c.toNat - 48)) cs := by
  unfold decF; rw [List.foldl_cons, dv]
theorem decF_append (l r : List UInt8) (acc : Nat) : decF acc (l ++ r) = decF (decF acc l) r := by
  unfold decF; rw [List.foldl_append]

theorem decF_ge (l : List UInt8) : ∀ acc : Nat, acc ≤ decF acc l := by
  induction l with
  | nil => intro acc; rw [decF_nil]; exact Nat.le_refl _
  | cons c cs ih =>
    intro acc
    have := ih (acc * 10 + (c.toNat - 48))
    rw [decF_cons]
    omega

theorem digit_toNat (d : Nat) (h : d < 10) : (UInt8.ofNat (48 + d)).toNat = 48 + d := by rw [UInt8.toNat_ofNat']; omega

theorem decF_decDigits (u : Nat) : decF 0 (decDigits u) = u := by
  induction u using Nat.strongRecOn with
  | ind u ih =>
    rw [decDigits]
    by_cases h : u < 10
    · rw [dif_pos h]
      rw [decF_cons, digit_toNat u h]
      rw [decF_nil]
      omega
    · rw [dif_neg h, decF_append, ih (u / 10) (by omega)]
      rw [decF_cons, digit_toNat (u % 10) (by omega)]
      rw [decF_nil]
      omega

theorem decDigits_digit (u : Nat) : ∀ c ∈ decDigits u, 48 ≤ c.toNat ∧ c.toNat ≤ 57 := by
  induction u using Nat.strongRecOn with
  | ind u ih =>
    rw [decDigits]
    by_cases h : u < 10
    · rw [dif_pos h]
      intro c hc
      rw [List.mem_singleton.1 hc, digit_toNat u h]
      omega
    · rw [dif_neg h]
      intro c hc
      rcases List.mem_append.1 hc with hc | hc
      · exact ih (u / 10) (by omega) c hc
      · rw [List.mem_singleton.1 hc, digit_toNat (u % 10) (by omega)]
        omega

theorem decDigits_head (u : Nat) : ∃ c cs, decDigits u = c :: cs ∧ (1 ≤ u → c.toNat ≠ 48) := by
  induction u using Nat.strongRecOn with
  | ind u ih =>
    rw [decDigits]
    by_cases h : u < 10
    · rw [dif_pos h]
      exact ⟨_, _, rfl, fun hu => by rw [digit_toNat u h]; omega⟩
    · rw [dif_neg h]
      obtain ⟨c, cs, e, hc⟩ := ih (u / 10) (by omega)
      exact ⟨c, cs ++ [UInt8.ofNat (48 + u % 10)], by rw [e]; rfl, fun _ => hc (by omega)⟩

theorem decDigits_zero : decDigits 0 = [48] := by rw [decDigits, dif_pos (by omega)]; rfl

/-- What the loop of the reader knows at its k-th digit. -/
theorem dec_step {bs : List UInt8} {u acc k : Nat} (hk : k < bs.length) (h : decF acc (bs.drop k) = u) (hd : ∀ c ∈ bs, 48 ≤ c.toNat ∧ c.toNat ≤ 57) :
    48 ≤ bs[k].toNat ∧ bs[k].toNat ≤ 57 ∧ acc * 10 + (bs[k].toNat - 48) ≤ u ∧ decF (acc * 10 + (bs[k].toNat - 48)) (bs.drop (k + 1)) = u := by
  have hm := hd _ (List.getElem_mem hk)
  rw [List.drop_eq_getElem_cons hk] at h
  rw [decF_cons] at h
  have := decF_ge (bs.drop (k + 1)) (acc * 10 + (bs[k].toNat - 48))
  exact ⟨hm.1, hm.2, by omega, h⟩

theorem itoa_cases (n : Int) (h0 : -9223372036854775808 ≤ n) (h1 : n ≤ 9223372036854775807) :
    (∃ u : Nat, n = (u : Int) ∧ u ≤ 9223372036854775807 ∧ itoa n = decDigits u) ∨ (∃ u : Nat, n = -(u : Int) ∧ 1 ≤ u ∧ u ≤ 9223372036854775808 ∧ itoa n = 45 :: decDigits u) := by
  unfold itoa
  by_cases h : n < 0
  · exact .inr ⟨n.natAbs, by omega, by omega, by omega, by rw [if_pos h]⟩
  · exact .inl ⟨n.toNat, by omega, by omega, by rw [if_neg h]⟩
end Go.Proofs.Qxb6601573aDoor
