/-
  Plain facts: four hexadecimal digits and their value. No Go in sight.
-/
import Derived.Laws.Entries
namespace Go.Proofs.Qxb6604098aDoor

/-- The value of a byte as a hexadecimal digit of either case. -/
def hexV (c : UInt8) : Option Nat :=
  if 48 ≤ c.toNat ∧ c.toNat ≤ 57 then some (c.toNat - 48)
  else if 97 ≤ c.toNat ∧ c.toNat ≤ 102 then some (c.toNat - 87)
  else if 65 ≤ c.toNat ∧ c.toNat ≤ 70 then some (c.toNat - 55)
  else none

/-- The number that hexadecimal digits write, behind acc; none where a byte is no digit. -/
def hexF : Nat → List UInt8 → Option Nat
  | acc, [] => some acc
  | acc, c :: cs => match hexV c with
    | none => none
    | some d => hexF (acc * 16 + d) cs

theorem hexV_lt {c : UInt8} {d : Nat} (h : hexV c = some d) : d < 16 := by
  unfold hexV at h
  split at h
  · cases h; omega
  · split at h
    · cases h; omega
    · split at h
      · cases h; omega
      · cases h

theorem or32 : ∀ n : Nat, n < 256 → bits .or .u8 (n : Int) 32 = ((n ||| 32 : Nat) : Int) := by
  decide +kernel

theorem letter : ∀ n : Nat, n < 256 → ¬ (48 ≤ n ∧ n ≤ 57) →
    ((97 ≤ n ∧ n ≤ 102 ∧ (n ||| 32) = n) ∨ (65 ≤ n ∧ n ≤ 70 ∧ (n ||| 32) = n + 32) ∨ (¬ (97 ≤ n ∧ n ≤ 102) ∧ ¬ (65 ≤ n ∧ n ≤ 70) ∧ ((n ||| 32) < 97 ∨ 102 < (n ||| 32)) ∧ (n ||| 32) < 256)) := by
  decide +kernel

/-- What the letter's way computes: the byte with bit 32 set is 87 above the digit's value; or it is no digit. -/
theorem lower_of (c : UInt8) (h : ¬ (48 ≤ c.toNat ∧ c.toNat ≤ 57)) : ∃ L : Nat, bits .or .u8 (c.toNat : Int) 32 = (L : Int) ∧ L < 256 ∧
    ((97 ≤ L ∧ L ≤ 102 ∧ c.toNat ≠ 95 ∧ hexV c = some (L - 87)) ∨ ((L < 97 ∨ 102 < L) ∧ hexV c = none)) := by
  have hc : c.toNat < 256 := c.toNat_lt
  refine ⟨c.toNat ||| 32, or32 _ hc, ?_⟩
  rcases letter _ hc h with ⟨h1, h2, e⟩ | ⟨h1, h2, e⟩ | ⟨h1, h2, h3, h4⟩
  · rw [e]
    refine ⟨hc, .inl ⟨h1, h2, by omega, ?_⟩⟩
    unfold hexV
    rw [if_neg h, if_pos ⟨h1, h2⟩]
  · rw [e]
    refine ⟨by omega, .inl ⟨by omega, by omega, by omega, ?_⟩⟩
    unfold hexV
    rw [if_neg h, if_neg (by omega), if_pos ⟨h1, h2⟩]
    congr 1
  · refine ⟨h4, .inr ⟨h3, ?_⟩⟩
    unfold hexV
    rw [if_neg h, if_neg h1, if_neg h2]

theorem hexV_digit {c : UInt8} (h : 48 ≤ c.toNat ∧ c.toNat ≤ 57) : hexV c = some (c.toNat - 48) := by
  unfold hexV; rw [if_pos h]

theorem hexF_none {acc : Nat} {c : UInt8} {cs : List UInt8} (h : hexV c = none) : hexF acc (c :: cs) = none := by simp [hexF, h]
theorem hexF_some {acc d : Nat} {c : UInt8} {cs : List UInt8} (h : hexV c = some d) : hexF acc (c :: cs) = hexF (acc * 16 + d) cs := by simp [hexF, h]

theorem hexF_lt : ∀ (l : List UInt8) (acc n : Nat), hexF acc l = some n → n < (acc + 1) * 16 ^ l.length
  | [], acc, n, h => by simp [hexF] at h; subst h; simp
  | c :: cs, acc, n, h => by
    cases hv : hexV c with
    | none => rw [hexF_none hv] at h; cases h
    | some d =>
      rw [hexF_some hv] at h
      have := hexF_lt cs _ _ h
      have hd := hexV_lt hv
      have e : (acc * 16 + d + 1) * 16 ^ cs.length ≤ ((acc + 1) * 16) * 16 ^ cs.length := Nat.mul_le_mul_right _ (by omega)
      rw [List.length_cons, Nat.pow_succ, Nat.mul_comm (16 ^ cs.length) 16, ← Nat.mul_assoc]
      omega

/-- One step keeps the bound of four digits. -/
theorem step_bound {acc d k : Nat} (ha : acc < 16 ^ k) (hd : d < 16) (hk : k < 4) : acc * 16 + d < 16 ^ (k + 1) ∧ acc * 16 + d ≤ 65535 := by
  have e : 16 ^ (k + 1) = 16 ^ k * 16 := Nat.pow_succ ..
  have h : 16 ^ (k + 1) ≤ 16 ^ 4 := Nat.pow_le_pow_right (by omega) (by omega)
  have h4 : (16 : Nat) ^ 4 = 65536 := by decide
  omega
end Go.Proofs.Qxb6604098aDoor
