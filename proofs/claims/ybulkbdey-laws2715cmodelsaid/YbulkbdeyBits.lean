namespace Go.Proofs.Ybulkbdey

/-- bit p of the bytes, the most significant first; past the end 0 -/
def bitAt (bs : List Nat) (p : Nat) : Nat := bs.getD (p / 8) 0 / 2 ^ (7 - p % 8) % 2

/-- the n bits from p on -/
def wordAt (bs : List Nat) (p : Nat) : Nat → Nat
  | 0 => 0
  | n + 1 => 2 * wordAt bs p n + bitAt bs (p + n)

theorem bitAt_lt (bs : List Nat) (p : Nat) : bitAt bs p < 2 := Nat.mod_lt _ (by decide)

theorem wordAt_lt (bs : List Nat) (p : Nat) : ∀ n, wordAt bs p n < 2 ^ n
  | 0 => by simp [wordAt]
  | n + 1 => by
    have h := wordAt_lt bs p n
    have hb := bitAt_lt bs (p + n)
    rw [wordAt, Nat.pow_succ]
    omega

theorem wordAt_add (bs : List Nat) (p m : Nat) : ∀ n, wordAt bs p (m + n) = wordAt bs p m * 2 ^ n + wordAt bs (p + m) n
  | 0 => by simp [wordAt]
  | n + 1 => by
    have h := wordAt_add bs p m n
    rw [← Nat.add_assoc, wordAt, h, wordAt, Nat.pow_succ, Nat.add_assoc p m n]
    have : wordAt bs p m * (2 ^ n * 2) = 2 * (wordAt bs p m * 2 ^ n) := by rw [← Nat.mul_assoc, Nat.mul_comm]
    omega

/-- the first s bits of a byte -/
theorem wordAt_byte (bs : List Nat) (i : Nat) (hb : bs.getD i 0 < 256) : ∀ s, s ≤ 8 → wordAt bs (8 * i) s = bs.getD i 0 / 2 ^ (8 - s)
  | 0, _ => by
    rw [wordAt]
    exact (Nat.div_eq_of_lt hb).symm
  | s + 1, hs => by
    rw [wordAt, wordAt_byte bs i hb s (by omega)]
    unfold bitAt
    have e1 : (8 * i + s) / 8 = i := by omega
    have e2 : (8 * i + s) % 8 = s := by omega
    rw [e1, e2]
    have e3 : 8 - s = (7 - s) + 1 := by omega
    have e4 : 8 - (s + 1) = 7 - s := by omega
    rw [e3, e4, Nat.pow_succ, ← Nat.div_div_eq_div_mul]
    omega

/-- what peek gives: the eight bytes from at/8 on, shifted -/
def peekAt (bs : List Nat) (p : Nat) : Nat := wordAt bs p (64 - p % 8) * 2 ^ (p % 8)

theorem peekAt_lt (bs : List Nat) (p : Nat) : peekAt bs p < 2 ^ 64 := by
  unfold peekAt
  have h := wordAt_lt bs p (64 - p % 8)
  have : 2 ^ 64 = 2 ^ (64 - p % 8) * 2 ^ (p % 8) := by rw [← Nat.pow_add]; congr 1; omega
  rw [this]
  exact Nat.mul_lt_mul_of_pos_right h (Nat.two_pow_pos _)

theorem peekAt_eq (bs : List Nat) (p : Nat) : wordAt bs (8 * (p / 8)) 64 * 2 ^ (p % 8) % 2 ^ 64 = peekAt bs p := by
  have hs : p % 8 + (64 - p % 8) = 64 := by omega
  have h := wordAt_add bs (8 * (p / 8)) (p % 8) (64 - p % 8)
  rw [hs] at h
  have e : 8 * (p / 8) + p % 8 = p := by omega
  rw [e] at h
  rw [h, Nat.add_mul, Nat.mul_assoc, ← Nat.pow_add, show 64 - p % 8 + p % 8 = 64 by omega, Nat.add_comm, Nat.add_mul_mod_self_right]
  exact Nat.mod_eq_of_lt (peekAt_lt bs p)

/-- the top n bits of peek, n at most 56 -/
theorem peekAt_read (bs : List Nat) (p n : Nat) (hn : n ≤ 56) : peekAt bs p / 2 ^ (64 - n) = wordAt bs p n := by
  unfold peekAt
  have h := wordAt_add bs p n (64 - p % 8 - n)
  rw [show n + (64 - p % 8 - n) = 64 - p % 8 by omega] at h
  have hr := wordAt_lt bs (p + n) (64 - p % 8 - n)
  rw [h, Nat.add_mul, Nat.mul_assoc, ← Nat.pow_add, show 64 - p % 8 - n + p % 8 = 64 - n by omega]
  have hr' : wordAt bs (p + n) (64 - p % 8 - n) * 2 ^ (p % 8) < 2 ^ (64 - n) := by
    have : 2 ^ (64 - n) = 2 ^ (64 - p % 8 - n) * 2 ^ (p % 8) := by rw [← Nat.pow_add]; congr 1; omega
    rw [this]
    exact Nat.mul_lt_mul_of_pos_right hr (Nat.two_pow_pos _)
  rw [Nat.mul_comm, Nat.mul_add_div (Nat.two_pow_pos _), Nat.div_eq_of_lt hr', Nat.add_zero]

/-- readLong's word -/
theorem long_eq (bs : List Nat) (p n : Nat) (hb : bs.getD (p / 8 + 8) 0 < 256) (hn : n ≤ 64) :
    (peekAt bs p + bs.getD (p / 8 + 8) 0 / 2 ^ (8 - p % 8)) / 2 ^ (64 - n) = wordAt bs p n := by
  have h64 : wordAt bs p 64 = peekAt bs p + bs.getD (p / 8 + 8) 0 / 2 ^ (8 - p % 8) := by
    have h := wordAt_add bs p (64 - p % 8) (p % 8)
    rw [show 64 - p % 8 + p % 8 = 64 by omega] at h
    rw [h]
    unfold peekAt
    have e : p + (64 - p % 8) = 8 * (p / 8 + 8) := by omega
    rw [e, wordAt_byte bs (p / 8 + 8) hb (p % 8) (by omega)]
  rw [← h64]
  have h := wordAt_add bs p n (64 - n)
  rw [show n + (64 - n) = 64 by omega] at h
  rw [h, Nat.mul_comm, Nat.mul_add_div (Nat.two_pow_pos _), Nat.div_eq_of_lt (wordAt_lt _ _ _), Nat.add_zero]

theorem split_read (bs : List Nat) (p n : Nat) (hn : 32 ≤ n) : wordAt bs p (n - 32) * 2 ^ 32 + wordAt bs (p + (n - 32)) 32 = wordAt bs p n := by
  have h := wordAt_add bs p (n - 32) 32
  rw [show n - 32 + 32 = n by omega] at h
  exact h.symm

theorem wordAt_mono (bs : List Nat) (p m n : Nat) (h : m ≤ n) (h0 : wordAt bs p n = 0) : wordAt bs p m = 0 := by
  have := wordAt_add bs p m (n - m)
  rw [show m + (n - m) = n by omega, h0] at this
  have hp := Nat.two_pow_pos (n - m)
  rcases Nat.eq_zero_or_pos (wordAt bs p m) with e | e
  · exact e
  · have := Nat.mul_pos e hp; omega

/-- the first one bit among the next f, else f -/
def zerosFrom (bs : List Nat) (p : Nat) : Nat → Nat → Nat
  | 0, q => q
  | f + 1, q => if bitAt bs (p + q) = 0 then zerosFrom bs p f (q + 1) else q

def zerosAt (bs : List Nat) (p : Nat) : Nat := zerosFrom bs p 24 0

theorem zerosFrom_spec (bs : List Nat) (p : Nat) : ∀ f q, wordAt bs p q = 0 → q ≤ zerosFrom bs p f q ∧ zerosFrom bs p f q ≤ q + f ∧ wordAt bs p (zerosFrom bs p f q) = 0 ∧ (zerosFrom bs p f q < q + f → bitAt bs (p + zerosFrom bs p f q) = 1)
  | 0, q, h => by simp [zerosFrom, h]
  | f + 1, q, h => by
    rw [zerosFrom]
    by_cases hb : bitAt bs (p + q) = 0
    · rw [if_pos hb]
      have h' : wordAt bs p (q + 1) = 0 := by rw [wordAt, h, hb]
      obtain ⟨a, b, c, d⟩ := zerosFrom_spec bs p f (q + 1) h'
      exact ⟨by omega, by omega, c, fun hh => d (by omega)⟩
    · rw [if_neg hb]
      have := bitAt_lt bs (p + q)
      exact ⟨Nat.le_refl _, by omega, h, fun _ => by omega⟩

theorem zerosAt_spec (bs : List Nat) (p : Nat) : zerosAt bs p ≤ 24 ∧ wordAt bs p (zerosAt bs p) = 0 ∧ (zerosAt bs p < 24 → bitAt bs (p + zerosAt bs p) = 1) := by
  obtain ⟨_, b, c, d⟩ := zerosFrom_spec bs p 24 0 rfl
  exact ⟨by unfold zerosAt; omega, c, fun h => d (by unfold zerosAt at h; omega)⟩

/-- peek has just that many leading zeros -/
theorem peekAt_bounds (bs : List Nat) (p : Nat) : (zerosAt bs p < 24 → 2 ^ (63 - zerosAt bs p) ≤ peekAt bs p ∧ peekAt bs p < 2 ^ (64 - zerosAt bs p)) ∧ (zerosAt bs p = 24 → peekAt bs p < 2 ^ 40) := by
  obtain ⟨h1, h2, h3⟩ := zerosAt_spec bs p
  constructor
  · intro h
    have hb := h3 h
    have r0 := peekAt_read bs p (zerosAt bs p) (by omega)
    have r1 := peekAt_read bs p (zerosAt bs p + 1) (by omega)
    rw [h2] at r0
    rw [wordAt, h2, hb] at r1
    constructor
    · have : 1 ≤ peekAt bs p / 2 ^ (64 - (zerosAt bs p + 1)) := by omega
      rw [Nat.le_div_iff_mul_le (Nat.two_pow_pos _)] at this
      rw [show 63 - zerosAt bs p = 64 - (zerosAt bs p + 1) by omega]
      omega
    · have := (Nat.div_eq_zero_iff).1 r0
      rcases this with h | h
      · have := Nat.two_pow_pos (64 - zerosAt bs p); omega
      · exact h
  · intro h
    have r0 := peekAt_read bs p 24 (by omega)
    rw [h] at h2
    rw [h2] at r0
    have := (Nat.div_eq_zero_iff).1 r0
    rcases this with h | h
    · simp at h
    · exact h

end Go.Proofs.Ybulkbdey
