import Derived.Test.YbulkbdbePicks
namespace Go.Proofs.Ybulkbdbe
open Go.RowKit

/-- the sums of f's first numbers -/
def sumW (f : Nat → Nat) : Nat → Nat
  | 0 => f 0
  | q + 1 => sumW f q + f (q + 1)

/-- the sum of the first i -/
def prevW (f : Nat → Nat) (i : Nat) : Nat := if i = 0 then 0 else sumW f (i - 1)

theorem prevW_succ (f : Nat → Nat) (i : Nat) : prevW f (i + 1) = sumW f i := by unfold prevW; rw [if_neg (by omega)]; rfl

theorem sumW_prev (f : Nat → Nat) (i : Nat) : sumW f i = prevW f i + f i := by
  unfold prevW
  cases i with
  | zero => simp [sumW]
  | succ n => rw [if_neg (by omega)]; rfl

theorem sumW_le (f : Nat → Nat) (h : ∀ q, f q ≤ 256) : ∀ q, sumW f q ≤ 256 * (q + 1)
  | 0 => by have := h 0; simp [sumW]; omega
  | q + 1 => by have := h (q + 1); have := sumW_le f h q; simp only [sumW]; omega

theorem sumW_pos (f : Nat → Nat) (h : ∀ q, 1 ≤ f q) : ∀ q, 1 ≤ sumW f q
  | 0 => h 0
  | q + 1 => by have := h (q + 1); simp only [sumW]; omega

theorem sumW_mono (f : Nat → Nat) : ∀ p q, p ≤ q → sumW f p ≤ sumW f q := by
  intro p q
  induction q with
  | zero => intro h; have : p = 0 := by omega
            subst this; exact Nat.le_refl _
  | succ n ih =>
    intro h
    by_cases e : p = n + 1
    · subst e; exact Nat.le_refl _
    · have := ih (by omega); simp only [sumW]; omega

theorem prevW_le (f : Nat → Nat) (h : ∀ q, f q ≤ 256) (i : Nat) : prevW f i ≤ 256 * i := by
  unfold prevW
  by_cases e : i = 0
  · rw [if_pos e]; omega
  · rw [if_neg e]; have := sumW_le f h (i - 1); have : i - 1 + 1 = i := by omega
    rw [this] at *; omega

theorem up_sum (f : Nat → Nat) (m : Nat) (hm : m ≤ 8) (h1 : ∀ q, 1 ≤ f q) (h2 : ∀ q, f q ≤ 256) : Up m (sumW f) :=
  ⟨fun q _ => by have := sumW_pos f h1 q; omega, fun q hq => by have := sumW_le f h2 q; omega, fun p q h _ => sumW_mono f p q h⟩

def nlF (n : Nat) (z : Nat → Nat) (i : Nat) : Nat := if n = 0 then 1 else z (i % n) % 4
def lwF (n : Nat) (z : Nat → Nat) (i j : Nat) : Nat := if n = 0 then 1 else z ((i * 3 + j) % n) + 1
def kF (n : Nat) (z : Nat → Nat) (i j : Nat) : Nat := if n = 0 then 1 else z ((i * 3 + j) % n) % 4 + 1

theorem nlF_le (n : Nat) (z : Nat → Nat) (i : Nat) : nlF n z i ≤ 3 := by unfold nlF; split <;> omega
theorem lwF_pos (n : Nat) (z : Nat → Nat) (i j : Nat) : 1 ≤ lwF n z i j := by unfold lwF; split <;> omega
theorem lwF_le (n : Nat) (z : Nat → Nat) (hz : ∀ q, z q < 256) (i j : Nat) : lwF n z i j ≤ 256 := by
  unfold lwF; split
  · omega
  · have := hz ((i * 3 + j) % n); omega
theorem kF_pos (n : Nat) (z : Nat → Nat) (i j : Nat) : 0 < kF n z i j ∧ kF n z i j ≤ 4 := by unfold kF; split <;> omega

end Go.Proofs.Ybulkbdbe
