import Derived.Test.YbulkbdeyBits
namespace Go.Proofs.Ybulkbdey

/-- one residual: its value and where the reader then stands -/
def codeAt (bs : List Nat) (k p : Nat) : Nat × Nat :=
  let q := zerosAt bs p
  if q = 24 then
    let v := wordAt bs (p + 24) 6
    (2 ^ v ||| wordAt bs (p + 30) v, p + 30 + v)
  else ((q * 2 ^ k % 18446744073709551616) ||| wordAt bs (p + (q + 1)) k, p + (q + 1) + k)

/-- where the reader stands behind j residuals of a group -/
def posAt (bs : List Nat) (k p : Nat) : Nat → Nat
  | 0 => p
  | j + 1 => (codeAt bs k (posAt bs k p j)).2

def valAt (bs : List Nat) (k p j : Nat) : Nat := (codeAt bs k (posAt bs k p j)).1

/-- how many residuals group g has, of n in all -/
def cntAt (n g : Nat) : Nat := min (n - 32 * g) 32

/-- where group g begins -/
def grpAt (bs : List Nat) (p n : Nat) : Nat → Nat
  | 0 => p
  | g + 1 =>
    let a := grpAt bs p n g
    let k := wordAt bs a 6
    if k = 63 then a + 6 else posAt bs k (a + 6) (cntAt n g)

/-- residual i of n -/
def resAt (bs : List Nat) (p n i : Nat) : Nat :=
  let a := grpAt bs p n (i / 32)
  let k := wordAt bs a 6
  if k = 63 then 0 else valAt bs k (a + 6) (i % 32)

theorem codeAt_le (bs : List Nat) (k p : Nat) (hk : k < 64) : (codeAt bs k p).2 ≤ p + 93 ∧ p ≤ (codeAt bs k p).2 := by
  unfold codeAt
  have h1 := (zerosAt_spec bs p).1
  have h2 := wordAt_lt bs (p + 24) 6
  dsimp only
  split
  · simp only; omega
  · simp only; omega

theorem posAt_le (bs : List Nat) (k p : Nat) (hk : k < 64) : ∀ j, posAt bs k p j ≤ p + 93 * j
  | 0 => by simp [posAt]
  | j + 1 => by
    have h := posAt_le bs k p hk j
    have h2 := (codeAt_le bs k (posAt bs k p j) hk).1
    rw [posAt]
    omega

theorem grpAt_le (bs : List Nat) (p n : Nat) : ∀ g, grpAt bs p n g ≤ p + 2982 * g
  | 0 => by simp [grpAt]
  | g + 1 => by
    have h := grpAt_le bs p n g
    rw [grpAt]
    have hk := wordAt_lt bs (grpAt bs p n g) 6
    split
    · omega
    · have h2 := posAt_le bs (wordAt bs (grpAt bs p n g) 6) (grpAt bs p n g + 6) (by omega) (cntAt n g)
      have h3 : cntAt n g ≤ 32 := Nat.min_le_right _ _
      omega

theorem zerosAt_bit (bs : List Nat) (p q : Nat) (h : q < zerosAt bs p) : bitAt bs (p + q) = 0 := by
  have h0 := (zerosAt_spec bs p).2.1
  have := wordAt_mono bs p (q + 1) (zerosAt bs p) h h0
  rw [wordAt] at this
  omega

theorem resAt_group (bs : List Nat) (p n g j : Nat) (hj : j < 32) : resAt bs p n (32 * g + j) = if wordAt bs (grpAt bs p n g) 6 = 63 then 0 else valAt bs (wordAt bs (grpAt bs p n g) 6) (grpAt bs p n g + 6) j := by
  unfold resAt
  have e1 : (32 * g + j) / 32 = g := by omega
  have e2 : (32 * g + j) % 32 = j := by omega
  rw [e1, e2]

end Go.Proofs.Ybulkbdey
