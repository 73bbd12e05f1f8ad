import Ieee.Arith
namespace Go.Proofs.Ybulkbdbe.Flt
open Ieee

theorem dLp : double.leastPlace = -1074 := by decide +kernel
theorem dBin : double.binade = 4503599627370496 := by decide +kernel
theorem dInf : double.infRung = 9218868437227405312 := by decide +kernel
theorem dSw : double.signWeight = 9223372036854775808 := by decide +kernel
theorem dFb : double.fractionBits = 52 := rfl

theorem log2_lt_of {m k : Nat} (h : m < 2 ^ k) (h0 : m ≠ 0) : m.log2 < k := (Nat.log2_lt h0).2 h
theorem lt_log2 (m : Nat) : m < 2 ^ (m.log2 + 1) := Nat.lt_log2_self

/-- how far the rounding goes: kept ≤ 2^53 -/
theorem cut_le (neg : Bool) (n drop : Nat) (k : Nat) (hn : n < 2 ^ (k + drop)) (hd : drop ≤ n.log2 + 2) : Toward.even.cut neg n drop ≤ 2 ^ k := by
  unfold Toward.cut
  dsimp only
  rw [Nat.min_eq_left hd, Nat.shiftLeft_eq, Nat.one_mul]
  have h1 : n / 2 ^ drop < 2 ^ k := by
    rw [Nat.div_lt_iff_lt_mul (Nat.two_pow_pos _), ← Nat.pow_add]; exact hn
  have h2 : ∀ b : Bool, b.toNat ≤ 1 := fun b => by cases b <;> simp
  have := h2 (decide (2 ^ drop < 2 * (n % 2 ^ drop)) || 2 ^ drop == 2 * (n % 2 ^ drop) && n / 2 ^ drop % 2 == 1)
  omega

theorem cut_zero (neg : Bool) (n : Nat) : Toward.even.cut neg n 0 = n := by
  unfold Toward.cut
  simp
  omega

theorem cut_exact (neg : Bool) (m e : Nat) (hm : m ≠ 0) : Toward.even.cut neg (m <<< e) e = m := by
  unfold Toward.cut
  dsimp only
  have hl : e ≤ (m <<< e).log2 + 2 := by
    have : (m <<< e) ≠ 0 := by rw [Nat.shiftLeft_eq]; exact Nat.mul_ne_zero hm (by have := Nat.two_pow_pos e; omega)
    have h2 : e ≤ (m <<< e).log2 := by
      rw [Nat.le_log2 this, Nat.shiftLeft_eq]
      exact Nat.le_mul_of_pos_left _ (Nat.pos_of_ne_zero hm)
    omega
  rw [Nat.min_eq_left hl, Nat.shiftLeft_eq, Nat.shiftLeft_eq, Nat.one_mul]
  have hp := Nat.two_pow_pos e
  rw [Nat.mul_div_cancel _ hp, Nat.mul_mod_left]
  simp

/-- the rung that 'nearest' comes to -/
def rungOf (mag : Nat) (place : Int) : Nat :=
  if mag = 0 then 0 else
  let last := max (place + mag.log2 - 52) (-1074)
  min ((last + 1074).toNat * 4503599627370496 + Toward.even.cut false (mag <<< (place - last).toNat) (last - place).toNat) 9218868437227405312

theorem cut_neg (neg : Bool) (n d : Nat) : Toward.even.cut neg n d = Toward.even.cut false n d := by
  unfold Toward.cut; rfl

theorem nearest_rung (neg : Bool) (mag : Nat) (place : Int) : double.nearest neg mag place = double.word neg (rungOf mag place) := by
  unfold Format.nearest rungOf
  rw [dLp, dFb, dBin, dInf]
  split
  · rfl
  · dsimp only
    rw [cut_neg]
    congr 3

theorem rungOf_le (mag : Nat) (place : Int) : rungOf mag place ≤ 9218868437227405312 := by
  unfold rungOf
  split
  · omega
  · exact Nat.min_le_right _ _

/-- a value below 2^k rounds to at most 2^k -/
theorem rungOf_upper (mag : Nat) (place : Int) (k : Nat) (h : place + mag.log2 < (k : Int) - 1023) (_hk : 1 ≤ k): rungOf mag place ≤ k * 4503599627370496 ∨ rungOf mag place ≤ 9007199254740992 := by
  unfold rungOf
  split
  · omega
  · rename_i hm
    dsimp only
    by_cases hc : place + mag.log2 - 52 ≤ -1074
    · right
      rw [Int.max_eq_right hc]
      refine Nat.le_trans (Nat.min_le_left _ _) ?_
      by_cases hp : place < -1074
      · have e1 : (place - -1074).toNat = 0 := by omega
        rw [e1]
        simp only [Nat.shiftLeft_zero]
        have e2 : ((-1074 : Int) + 1074).toNat = 0 := by decide
        rw [e2]
        by_cases hd : ((-1074 : Int) - place).toNat ≤ mag.log2 + 2
        · have := cut_le false mag ((-1074 : Int) - place).toNat 53 (Nat.lt_of_lt_of_le (lt_log2 mag) (Nat.pow_le_pow_right (by decide) (by omega))) hd
          omega
        · have : Toward.even.cut false mag ((-1074 : Int) - place).toNat ≤ 1 := by
            unfold Toward.cut
            dsimp only
            rw [Nat.min_eq_right (by omega), Nat.shiftLeft_eq, Nat.one_mul]
            have hl := lt_log2 mag
            have h3 : mag < 2 ^ (mag.log2 + 2) := Nat.lt_of_lt_of_le hl (Nat.pow_le_pow_right (by decide) (by omega))
            rw [Nat.div_eq_of_lt h3]
            have h2 : ∀ b : Bool, b.toNat ≤ 1 := fun b => by cases b <;> simp
            have := h2 (decide (2 ^ (mag.log2 + 2) < 2 * (mag % 2 ^ (mag.log2 + 2))) || 2 ^ (mag.log2 + 2) == 2 * (mag % 2 ^ (mag.log2 + 2)) && 0 % 2 == 1)
            omega
          omega
      · have e1 : ((-1074 : Int) - place).toNat = 0 := by omega
        rw [e1, cut_zero, Nat.shiftLeft_eq]
        have e2 : ((-1074 : Int) + 1074).toNat = 0 := by decide
        rw [e2]
        have hl := lt_log2 mag
        have : mag * 2 ^ (place - -1074).toNat ≤ 2 ^ (mag.log2 + 1) * 2 ^ (place - -1074).toNat := Nat.mul_le_mul_right _ (Nat.le_of_lt hl)
        rw [← Nat.pow_add] at this
        have h4 : 2 ^ (mag.log2 + 1 + (place - -1074).toNat) ≤ 2 ^ 53 := Nat.pow_le_pow_right (by decide) (by omega)
        omega
    · left
      rw [Int.max_eq_left (by omega)]
      refine Nat.le_trans (Nat.min_le_left _ _) ?_
      have hkept : Toward.even.cut false (mag <<< (place - (place + mag.log2 - 52)).toNat) ((place + mag.log2 - 52) - place).toNat ≤ 9007199254740992 := by
        by_cases hp : (mag.log2 : Int) ≤ 52
        · have e1 : ((place + mag.log2 - 52) - place).toNat = 0 := by omega
          rw [e1, cut_zero, Nat.shiftLeft_eq]
          have hl := lt_log2 mag
          have : mag * 2 ^ (place - (place + mag.log2 - 52)).toNat ≤ 2 ^ (mag.log2 + 1) * 2 ^ (place - (place + mag.log2 - 52)).toNat := Nat.mul_le_mul_right _ (Nat.le_of_lt hl)
          rw [← Nat.pow_add] at this
          have h4 : 2 ^ (mag.log2 + 1 + (place - (place + mag.log2 - 52)).toNat) ≤ 2 ^ 53 := Nat.pow_le_pow_right (by decide) (by omega)
          omega
        · have e1 : (place - (place + mag.log2 - 52)).toNat = 0 := by omega
          rw [e1, Nat.shiftLeft_zero]
          exact cut_le false mag _ 53 (Nat.lt_of_lt_of_le (lt_log2 mag) (Nat.pow_le_pow_right (by decide) (by omega))) (by omega)
      have : (place + mag.log2 - 52 + 1074).toNat + 2 ≤ k := by omega
      have h5 : (place + mag.log2 - 52 + 1074).toNat * 4503599627370496 + 9007199254740992 ≤ k * 4503599627370496 := by omega
      omega

/-- a finite word -/
structure Fin (x : Nat) : Prop where
  lt : x < 18446744073709551616
  fin : x % 9223372036854775808 < 9218868437227405312

def sgn (x : Nat) : Bool := x / 9223372036854775808 % 2 == 1
def rung (x : Nat) : Nat := x % 9223372036854775808
def mag (r : Nat) : Nat := if r < 4503599627370496 then r else 4503599627370496 + r % 4503599627370496
def expo (r : Nat) : Nat := r / 4503599627370496 - 1

theorem word_eq (s : Bool) (r : Nat) : double.word s r = if s then 9223372036854775808 + r else r := by
  unfold Format.word; rw [dSw]

theorem word_of (x : Nat) (h : x < 18446744073709551616) : double.word (sgn x) (rung x) = x := by
  rw [word_eq]; unfold sgn rung
  by_cases hx : x < 9223372036854775808
  · have : x / 9223372036854775808 = 0 := Nat.div_eq_of_lt hx
    rw [this]; simp; omega
  · have : x / 9223372036854775808 = 1 := by omega
    rw [this]; simp; omega

theorem read_fin {x : Nat} (h : Fin x) : double.read x = .number (sgn x) (mag (rung x)) (-1074 + (expo (rung x) : Nat)) := by
  unfold Format.read
  rw [dSw, dBin, dInf, dLp]
  have h1 := h.fin
  unfold mag expo rung sgn
  dsimp only
  by_cases hr : x % 9223372036854775808 < 4503599627370496
  · rw [if_pos hr, if_pos hr, Nat.div_eq_of_lt hr]; simp
  · rw [if_neg hr, if_pos h1, if_neg hr]

theorem log2_mul_pow (m e : Nat) (hm : m ≠ 0) : (m <<< e).log2 = m.log2 + e := by
  have hp := Nat.two_pow_pos e
  have hne : m <<< e ≠ 0 := by rw [Nat.shiftLeft_eq]; exact Nat.mul_ne_zero hm (by omega)
  apply Nat.le_antisymm
  · have : (m <<< e).log2 < m.log2 + e + 1 := by
      rw [Nat.log2_lt hne, Nat.shiftLeft_eq, show m.log2 + e + 1 = (m.log2 + 1) + e from by omega, Nat.pow_add]
      exact Nat.mul_lt_mul_of_pos_right (lt_log2 m) hp
    omega
  · rw [Nat.le_log2 hne, Nat.shiftLeft_eq, Nat.pow_add]
    exact Nat.mul_le_mul_right _ (Nat.log2_self_le hm)

theorem mag_log2 (r : Nat) (h : 4503599627370496 ≤ r) : (mag r).log2 = 52 := by
  unfold mag
  rw [if_neg (by omega)]
  have hlt := Nat.mod_lt r (show 0 < 4503599627370496 by decide)
  apply Nat.le_antisymm
  · have : (4503599627370496 + r % 4503599627370496).log2 < 53 := (Nat.log2_lt (by omega)).2 (by omega)
    omega
  · exact (Nat.le_log2 (by omega)).2 (by omega)

theorem mag_zero (r : Nat) : mag r = 0 ↔ r = 0 := by
  unfold mag; split <;> omega

/-- what a finite word stands for, written again at the least place, is the same rung -/
theorem rungOf_read (r : Nat) (h : r < 9218868437227405312) : rungOf (mag r <<< expo r) (-1074) = r := by
  unfold rungOf
  by_cases h0 : r = 0
  · subst h0; decide
  have hm : mag r ≠ 0 := fun e => h0 ((mag_zero r).1 e)
  have hp := Nat.two_pow_pos (expo r)
  have hne : mag r <<< expo r ≠ 0 := by rw [Nat.shiftLeft_eq]; exact Nat.mul_ne_zero hm (by omega)
  rw [if_neg hne, log2_mul_pow _ _ hm]
  dsimp only
  by_cases hr : r < 4503599627370496
  · have he : expo r = 0 := by unfold expo; omega
    have hmr : mag r = r := by unfold mag; rw [if_pos hr]
    rw [he, hmr, Nat.shiftLeft_zero]
    have hl : r.log2 < 52 := (Nat.log2_lt h0).2 (by omega)
    rw [Int.max_eq_right (by omega)]
    have e1 : ((-1074 : Int) + 1074).toNat = 0 := by decide
    have e2 : ((-1074 : Int) - -1074).toNat = 0 := by decide
    rw [e1, e2, Nat.shiftLeft_zero, cut_zero]
    omega
  · rw [mag_log2 r (by omega)]
    have hmr : mag r = 4503599627370496 + r % 4503599627370496 := by unfold mag; rw [if_neg hr]
    have hb : (4503599627370496 : Nat) ≤ r := by omega
    rw [Int.max_eq_left (by omega)]
    have e1 : ((-1074 : Int) + (52 + expo r : Nat) - 52 + 1074).toNat = expo r := by omega
    have e2 : ((-1074 : Int) - (-1074 + (52 + expo r : Nat) - 52)).toNat = 0 := by omega
    have e3 : ((-1074 : Int) + (52 + expo r : Nat) - 52 - -1074).toNat = expo r := by omega
    rw [e1, e2, e3, Nat.shiftLeft_zero, cut_exact _ _ _ hm, hmr]
    have : expo r = r / 4503599627370496 - 1 := rfl
    omega

/-- 0 + x: x again, but that -0 becomes +0 -/
theorem zero_add {x : Nat} (h : Fin x) : double.add 0 x = some (if rung x = 0 then 0 else x) := by
  have h0 : double.read 0 = .number false 0 (-1074) := by decide +kernel
  unfold Format.add
  rw [h0, read_fin h]
  unfold Datum.sum
  dsimp only
  rw [Int.min_eq_left (by omega)]
  have e1 : ((-1074 : Int) + (expo (rung x) : Nat) - -1074).toNat = expo (rung x) := by omega
  have e2 : ((-1074 : Int) - -1074).toNat = 0 := by decide
  rw [e1, e2]
  have hz : signed false 0 0 = 0 := by decide
  rw [hz, Int.zero_add]
  have hr := h.fin
  have hp := Nat.two_pow_pos (expo (rung x))
  simp only [Option.map_some, Format.write]
  by_cases h0 : rung x = 0
  · rw [if_pos h0, h0]
    have : mag 0 = 0 := rfl
    rw [this]
    have e3 : signed (sgn x) 0 (expo 0) = 0 := by cases sgn x <;> decide
    rw [e3]
    simp [nearest_rung, rungOf, word_eq]
  · have hm : mag (rung x) ≠ 0 := fun e => h0 ((mag_zero _).1 e)
    have hne : mag (rung x) <<< expo (rung x) ≠ 0 := by rw [Nat.shiftLeft_eq]; exact Nat.mul_ne_zero hm (by omega)
    rw [if_neg h0]
    have e5 : signed (sgn x) (mag (rung x)) (expo (rung x)) = if sgn x then -((mag (rung x) <<< expo (rung x) : Nat) : Int) else ((mag (rung x) <<< expo (rung x) : Nat) : Int) := rfl
    have e3 : (signed (sgn x) (mag (rung x)) (expo (rung x))).natAbs = mag (rung x) <<< expo (rung x) := by
      rw [e5]
      generalize mag (rung x) <<< expo (rung x) = q
      cases sgn x
      · exact Int.natAbs_natCast q
      · rw [if_pos rfl, Int.natAbs_neg]; exact Int.natAbs_natCast q
    have e4 : (if signed (sgn x) (mag (rung x)) (expo (rung x)) = 0 then false && sgn x else decide (signed (sgn x) (mag (rung x)) (expo (rung x)) < 0)) = sgn x := by
      rw [e5]
      generalize mag (rung x) <<< expo (rung x) = q at *
      cases sgn x
      · simp only [Bool.false_eq_true, if_false]
        rw [if_neg (by omega)]; simp
      · simp only [if_true]
        rw [if_neg (by omega)]; simp; omega
    rw [e3, e4, nearest_rung, rungOf_read _ (show rung x < _ from hr), word_of x h.lt]

theorem sub_self {x : Nat} (h : Fin x) : double.sub x x = some 0 := by
  unfold Format.sub
  rw [read_fin h]
  unfold Datum.opposite Datum.sum
  dsimp only
  rw [Int.min_eq_left (by omega)]
  have e1 : ((-1074 : Int) + (expo (rung x) : Nat) - (-1074 + (expo (rung x) : Nat))).toNat = 0 := by omega
  rw [e1]
  have : signed (sgn x) (mag (rung x)) 0 + signed (!sgn x) (mag (rung x)) 0 = 0 := by
    unfold signed; cases sgn x <;> simp <;> omega
  rw [this]
  cases sgn x <;> simp [Format.write, nearest_rung, rungOf, word_eq]

theorem zero_sub_negzero : double.sub 0 9223372036854775808 = some 0 := by decide +kernel

theorem order_self {x : Nat} (h : (double.read x).isNaN = false) : double.order x x = some .eq := by
  unfold Format.order Datum.order
  cases hx : double.read x with
  | nan a b => rw [hx] at h; simp [Datum.isNaN] at h
  | infinity s => cases s <;> decide
  | number s m i =>
    simp only [Int.min_self, Int.sub_self]
    simp

theorem order_fin {x : Nat} (h : Fin x) : double.order x x = some .eq := order_self (by rw [read_fin h]; rfl)

/-- what is written out of a number is no NaN -/
theorem nearest_read (s : Bool) (m : Nat) (p : Int) : (double.read (double.nearest s m p)).isNaN = false := by
  rw [nearest_rung, word_eq]
  have h := rungOf_le m p
  unfold Format.read
  rw [dSw, dBin, dInf, dLp]
  dsimp only
  generalize rungOf m p = r at *
  have e : (if s = true then 9223372036854775808 + r else r) % 9223372036854775808 = r := by
    cases s <;> simp <;> omega
  rw [e]
  by_cases h1 : r < 4503599627370496
  · rw [if_pos h1]; rfl
  · rw [if_neg h1]
    by_cases h2 : r < 9218868437227405312
    · rw [if_pos h2]; rfl
    · rw [if_neg h2, if_pos (by omega)]; rfl

theorem nearest_fin (s : Bool) (m : Nat) (p : Int) (h : p + m.log2 < 1023) : Fin (double.nearest s m p) ∧ ∀ k : Nat, 1 ≤ k → p + m.log2 < (k : Int) - 1023 → 2 ≤ k → rung (double.nearest s m p) ≤ k * 4503599627370496 := by
  rw [nearest_rung, word_eq]
  have hu := rungOf_upper m p 2046 (by omega) (by omega)
  have hb : rungOf m p < 9218868437227405312 := by omega
  refine ⟨⟨by cases s <;> simp <;> omega, by cases s <;> simp <;> omega⟩, ?_⟩
  intro k _ hk _
  have := rungOf_upper m p k hk (by omega)
  unfold rung
  cases s <;> simp <;> omega

end Go.Proofs.Ybulkbdbe.Flt
