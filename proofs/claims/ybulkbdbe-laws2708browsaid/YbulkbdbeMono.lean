import Derived.Test.YbulkbdbeFloatB
namespace Go.Proofs.Ybulkbdbe.Flt
open Ieee

/-- rounding to even by division, with no cap -/
def rnd (n d : Nat) : Nat := n / 2 ^ d + (decide (2 ^ d < 2 * (n % 2 ^ d)) || (2 ^ d == 2 * (n % 2 ^ d) && n / 2 ^ d % 2 == 1)).toNat

theorem toNat_le_one (b : Bool) : b.toNat ≤ 1 := by cases b <;> simp

theorem cut_rnd (n d : Nat) : Toward.even.cut false n d = rnd n d := by
  unfold Toward.cut rnd
  dsimp only
  by_cases h : d ≤ n.log2 + 2
  · rw [Nat.min_eq_left h, Nat.shiftLeft_eq, Nat.one_mul]
  · have hl := lt_log2 n
    have h1 : n < 2 ^ (n.log2 + 2) := Nat.lt_of_lt_of_le hl (Nat.pow_le_pow_right (by decide) (by omega))
    have h2 : n < 2 ^ d := Nat.lt_of_lt_of_le hl (Nat.pow_le_pow_right (by decide) (by omega))
    have e1 : 2 ^ (n.log2 + 2) = 2 * 2 ^ (n.log2 + 1) := by rw [Nat.pow_succ]; omega
    have e2 : 2 ^ (n.log2 + 2) ≤ 2 ^ d := Nat.pow_le_pow_right (by decide) (by omega)
    rw [Nat.min_eq_right (by omega), Nat.shiftLeft_eq, Nat.one_mul, Nat.div_eq_of_lt h1, Nat.div_eq_of_lt h2, Nat.mod_eq_of_lt h1, Nat.mod_eq_of_lt h2]
    have a1 : decide (2 ^ (n.log2 + 2) < 2 * n) = false := decide_eq_false (by omega)
    have a2 : decide (2 ^ d < 2 * n) = false := decide_eq_false (by omega)
    rw [a1, a2]
    simp

theorem rnd_mono (d : Nat) {m n : Nat} (h : m ≤ n) : rnd m d ≤ rnd n d := by
  unfold rnd
  have hp := Nat.two_pow_pos d
  generalize 2 ^ d = g at *
  have hq : m / g ≤ n / g := Nat.div_le_div_right h
  have b1 := toNat_le_one (decide (g < 2 * (m % g)) || (g == 2 * (m % g) && m / g % 2 == 1))
  by_cases e : m / g = n / g
  · have hm := Nat.div_add_mod m g
    have hn := Nat.div_add_mod n g
    rw [e] at hm
    have hr : m % g ≤ n % g := by omega
    rw [e]
    generalize m % g = r at *
    generalize n % g = s at *
    generalize n / g = q at *
    apply Nat.add_le_add_left
    by_cases h1 : g < 2 * s
    · rw [decide_eq_true h1]; exact toNat_le_one _
    · rw [decide_eq_false h1, decide_eq_false (show ¬ g < 2 * r by omega)]
      by_cases h2 : g = 2 * r
      · have : s = r := by omega
        subst this; exact Nat.le_refl _
      · have : (g == 2 * r) = false := by simpa using h2
        rw [this]; simp
  · have : m / g + 1 ≤ n / g := by omega
    omega

theorem rnd_scale (n d k : Nat) : rnd (n <<< k) (d + k) = rnd n d := by
  unfold rnd
  have hk := Nat.two_pow_pos k
  rw [Nat.shiftLeft_eq, Nat.pow_add, Nat.mul_div_mul_right _ _ hk, Nat.mul_mod_mul_right]
  have e1 : decide (2 ^ d * 2 ^ k < 2 * (n % 2 ^ d * 2 ^ k)) = decide (2 ^ d < 2 * (n % 2 ^ d)) := by
    rw [← Nat.mul_assoc]
    exact decide_eq_decide.2 (Nat.mul_lt_mul_right hk)
  have e2 : (2 ^ d * 2 ^ k == 2 * (n % 2 ^ d * 2 ^ k)) = (2 ^ d == 2 * (n % 2 ^ d)) := by
    rw [← Nat.mul_assoc]
    rw [Bool.eq_iff_iff]
    simp only [beq_iff_eq]
    exact ⟨fun h => Nat.eq_of_mul_eq_mul_right hk h, fun h => congrArg (· * 2 ^ k) h⟩
  rw [e1, e2]

/-- the same number at a lower place -/
theorem rungOf_scale (m k : Nat) (p : Int) : rungOf (m <<< k) (p - k) = rungOf m p := by
  unfold rungOf
  by_cases h0 : m = 0
  · subst h0; simp
  have hk := Nat.two_pow_pos k
  have hne : m <<< k ≠ 0 := by rw [Nat.shiftLeft_eq]; exact Nat.mul_ne_zero h0 (by omega)
  rw [if_neg hne, if_neg h0, log2_mul_pow _ _ h0]
  dsimp only
  have el : p - (k : Int) + ((m.log2 + k : Nat) : Int) - 52 = p + (m.log2 : Int) - 52 := by omega
  rw [el]
  generalize max (p + (m.log2 : Int) - 52) (-1074) = last
  have key : Toward.even.cut false (m <<< k <<< (p - k - last).toNat) (last - (p - k)).toNat = Toward.even.cut false (m <<< (p - last).toNat) (last - p).toNat := by
    by_cases h1 : last ≤ p - k
    · have e1 : (last - (p - k)).toNat = 0 := by omega
      have e2 : (last - p).toNat = 0 := by omega
      rw [e1, e2, cut_zero, cut_zero, ← Nat.shiftLeft_add]
      congr 1; omega
    · by_cases h2 : last ≤ p
      · have e1 : (p - k - last).toNat = 0 := by omega
        have e2 : (last - p).toNat = 0 := by omega
        rw [e1, e2, cut_zero, Nat.shiftLeft_zero]
        have e3 : m <<< k = (m <<< (p - last).toNat) <<< (last - (p - k)).toNat := by
          rw [← Nat.shiftLeft_add]; congr 1; omega
        rw [e3, cut_exact]
        rw [Nat.shiftLeft_eq]; exact Nat.mul_ne_zero h0 (by have := Nat.two_pow_pos (p - last).toNat; omega)
      · have e1 : (p - k - last).toNat = 0 := by omega
        have e2 : (p - last).toNat = 0 := by omega
        have e3 : (last - (p - k)).toNat = (last - p).toNat + k := by omega
        rw [e1, e2, e3, Nat.shiftLeft_zero, Nat.shiftLeft_zero, cut_rnd, cut_rnd, rnd_scale]
  rw [key]

theorem min_mono {a b c : Nat} (h : a ≤ b) : min a c ≤ min b c := by omega

theorem rungOf_mono_low {m n : Nat} (p : Int) (hp : p ≤ -1074) (h : m ≤ n) : rungOf m p ≤ rungOf n p := by
  unfold rungOf
  by_cases hm : m = 0
  · rw [if_pos hm]; exact Nat.zero_le _
  have hn : n ≠ 0 := by omega
  rw [if_neg hm, if_neg hn]
  dsimp only
  have hl : m.log2 ≤ n.log2 := by
    rw [Nat.le_log2 hn]; exact Nat.le_trans (Nat.log2_self_le hm) h
  have em : (p - max (p + (m.log2 : Int) - 52) (-1074)).toNat = 0 := by omega
  have en : (p - max (p + (n.log2 : Int) - 52) (-1074)).toNat = 0 := by omega
  rw [em, en, Nat.shiftLeft_zero, Nat.shiftLeft_zero, cut_rnd, cut_rnd]
  by_cases heq : max (p + (m.log2 : Int) - 52) (-1074) = max (p + (n.log2 : Int) - 52) (-1074)
  · rw [heq]
    exact min_mono (Nat.add_le_add_left (rnd_mono (max (p + (n.log2 : Int) - 52) (-1074) - p).toNat h) _)
  · have h2 : max (p + (n.log2 : Int) - 52) (-1074) = p + (n.log2 : Int) - 52 := by omega
    rw [h2]
    generalize hl1 : max (p + (m.log2 : Int) - 52) (-1074) = l1 at *
    have hup : rnd m (l1 - p).toNat ≤ 9007199254740992 := by
      rw [← cut_rnd]
      by_cases hd : (l1 - p).toNat ≤ m.log2 + 2
      · exact cut_le false m _ 53 (Nat.lt_of_lt_of_le (lt_log2 m) (Nat.pow_le_pow_right (by decide) (by omega))) hd
      · rw [cut_rnd]
        unfold rnd
        have hlt : m < 2 ^ (l1 - p).toNat := Nat.lt_of_lt_of_le (lt_log2 m) (Nat.pow_le_pow_right (by decide) (by omega))
        rw [Nat.div_eq_of_lt hlt]
        have := toNat_le_one (decide (2 ^ (l1 - p).toNat < 2 * (m % 2 ^ (l1 - p).toNat)) || (2 ^ (l1 - p).toNat == 2 * (m % 2 ^ (l1 - p).toNat) && 0 % 2 == 1))
        omega
    have hlo : 4503599627370496 ≤ rnd n (p + (n.log2 : Int) - 52 - p).toNat := by
      unfold rnd
      have hd : n.log2 = 52 + (p + (n.log2 : Int) - 52 - p).toNat := by omega
      have : 4503599627370496 ≤ n / 2 ^ (p + (n.log2 : Int) - 52 - p).toNat := by
        rw [Nat.le_div_iff_mul_le (Nat.two_pow_pos _), show (4503599627370496 : Nat) = 2 ^ 52 from rfl, ← Nat.pow_add, ← hd]
        exact Nat.log2_self_le hn
      exact Nat.le_trans this (Nat.le_add_right _ _)
    have hlast : (l1 + 1074).toNat + 1 ≤ (p + (n.log2 : Int) - 52 + 1074).toNat := by omega
    apply min_mono
    generalize rnd m (l1 - p).toNat = a at *
    generalize rnd n (p + (n.log2 : Int) - 52 - p).toNat = b at *
    generalize (l1 + 1074).toNat = x at *
    generalize (p + (n.log2 : Int) - 52 + 1074).toNat = y at *
    clear hl1 h2 heq em en hl h hp hm hn
    omega

theorem rungOf_mono {m n : Nat} (p : Int) (h : m ≤ n) : rungOf m p ≤ rungOf n p := by
  by_cases hp : p ≤ -1074
  · exact rungOf_mono_low p hp h
  · rw [← rungOf_scale m (p + 1074).toNat p, ← rungOf_scale n (p + 1074).toNat p]
    apply rungOf_mono_low _ (by omega)
    rw [Nat.shiftLeft_eq, Nat.shiftLeft_eq]
    exact Nat.mul_le_mul_right _ h

/-- the value of a rung, in units of 2^-1074 -/
def V (r : Nat) : Nat := mag r <<< expo r

theorem rungOf_V (r k : Nat) (h : r < 9218868437227405312) : rungOf (V r * 2 ^ k) (-1074 - k) = r := by
  rw [← Nat.shiftLeft_eq, rungOf_scale]
  exact rungOf_read r h

theorem rungOf_upper' {m r k : Nat} (hr : r < 9218868437227405312) (h : m ≤ V r * 2 ^ k) : rungOf m (-1074 - k) ≤ r := by
  have := rungOf_mono (-1074 - (k : Int)) h
  rwa [rungOf_V r k hr] at this

theorem rungOf_lower' {m r k : Nat} (hr : r < 9218868437227405312) (h : V r * 2 ^ k ≤ m) : r ≤ rungOf m (-1074 - k) := by
  have := rungOf_mono (-1074 - (k : Int)) h
  rwa [rungOf_V r k hr] at this

theorem rungOf_up {m r : Nat} (hr : r < 9218868437227405312) (h : m ≤ V r) : rungOf m (-1074) ≤ r := by
  have := rungOf_upper' (k := 0) hr (by simpa using h)
  simpa using this

theorem rungOf_lo {m r : Nat} (hr : r < 9218868437227405312) (h : V r ≤ m) : r ≤ rungOf m (-1074) := by
  have := rungOf_lower' (k := 0) hr (by simpa using h)
  simpa using this

theorem V_mono {r s : Nat} (h : r ≤ s) : V r ≤ V s := by
  unfold V
  rw [Nat.shiftLeft_eq, Nat.shiftLeft_eq]
  have hd : r / 4503599627370496 ≤ s / 4503599627370496 := Nat.div_le_div_right h
  by_cases e : r / 4503599627370496 = s / 4503599627370496
  · have he : expo r = expo s := by unfold expo; rw [e]
    rw [he]
    apply Nat.mul_le_mul_right
    unfold mag
    split <;> split <;> omega
  · by_cases hr : r < 4503599627370496
    · have h1 : mag r = r := by unfold mag; rw [if_pos hr]
      have h2 : expo r = 0 := by unfold expo; omega
      have h3 : 4503599627370496 ≤ mag s := by unfold mag; rw [if_neg (by omega)]; omega
      have := Nat.le_mul_of_pos_right (mag s) (Nat.two_pow_pos (expo s))
      rw [h1, h2]; omega
    · have h1 : mag r ≤ 9007199254740992 := by unfold mag; rw [if_neg hr]; omega
      have h3 : 4503599627370496 ≤ mag s := by unfold mag; rw [if_neg (by omega)]; omega
      have h4 : expo r + 1 ≤ expo s := by unfold expo; omega
      have h5 : 2 ^ (expo r + 1) ≤ 2 ^ expo s := Nat.pow_le_pow_right (by decide) h4
      have h6 : mag r * 2 ^ expo r ≤ 9007199254740992 * 2 ^ expo r := Nat.mul_le_mul_right _ h1
      have h7 : 4503599627370496 * 2 ^ (expo r + 1) ≤ mag s * 2 ^ expo s := Nat.mul_le_mul h3 h5
      rw [Nat.pow_succ] at h7
      omega

theorem V_lt_iff {r s : Nat} (h : V r < V s) : r < s := by
  apply Nat.lt_of_not_le
  intro hc
  have := V_mono hc
  omega

end Go.Proofs.Ybulkbdbe.Flt
