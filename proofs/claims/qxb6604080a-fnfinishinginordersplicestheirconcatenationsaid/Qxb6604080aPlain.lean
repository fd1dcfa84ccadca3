/-
  Plain facts: the first index at which two lists differ. No Go in sight.
-/
import Derived.Laws.Strings
namespace Go.Proofs.Qxb6604080a

/-- The first place at which two lists part; the shorter one's length where none does. -/
def fd : List UInt8 → List UInt8 → Nat
  | a :: as, b :: bs => if a = b then fd as bs + 1 else 0
  | _, _ => 0

theorem fd_append (p x y : List UInt8) : fd (p ++ x) (p ++ y) = p.length + fd x y := by
  induction p with
  | nil => simp
  | cons a p ih => simp [fd, ih]; omega

/-- Where the lists part behind k equal bytes, or one ends there, the first difference is k. -/
theorem fd_stop : ∀ (k : Nat) (a b : List UInt8), a.take k = b.take k → k ≤ a.length → k ≤ b.length →
    (k = a.length ∨ k = b.length ∨ a[k]? ≠ b[k]?) → fd a b = k
  | 0, [], b, _, _, _, _ => by simp [fd]
  | 0, a :: as, [], _, _, _, _ => by simp [fd]
  | 0, a :: as, b :: bs, _, _, _, h => by
    have : ¬ a = b := by intro e; subst e; rcases h with h | h | h <;> simp at h
    simp [fd, this]
  | k + 1, [], b, _, h, _, _ => by simp at h
  | k + 1, a :: as, [], _, _, h, _ => by simp at h
  | k + 1, a :: as, b :: bs, e, h1, h2, h => by
    simp only [List.take_succ_cons, List.cons.injEq] at e
    obtain ⟨rfl, e⟩ := e
    simp only [fd, if_true]
    rw [fd_stop k as bs e (by simpa using h1) (by simpa using h2) (by simpa using h)]

theorem fd_head (x : UInt8) (q : List UInt8) (h : ∀ y, q.head? = some y → y ≠ x) (r : List UInt8) : fd q (x :: r) = 0 := by
  cases q with
  | nil => simp [fd]
  | cons y ys => simp [fd, h y rfl]

theorem take_step (a b : List UInt8) (k : Nat) (h : a.take k = b.take k) (e : a[k]? = b[k]?) : a.take (k + 1) = b.take (k + 1) := by
  rw [List.take_add_one, List.take_add_one, h, e]
end Go.Proofs.Qxb6604080a
