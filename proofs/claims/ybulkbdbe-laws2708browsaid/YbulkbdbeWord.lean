import Derived.Test.YbulkbdbeDiv
import Derived.Test.YbulkbdbeMathA
import Derived.Laws.BitsAllLaws
namespace Go.Proofs.Ybulkbdbe.Flt
open Ieee

theorem V_strict {r s : Nat} (h : r < s) (hs : s < 9218868437227405312) : V r < V s := by
  have h1 := V_mono (Nat.le_of_lt h)
  apply Nat.lt_of_le_of_ne h1
  intro e
  have a : rungOf (V r) (-1074) = r := rungOf_read r (by omega)
  have b : rungOf (V s) (-1074) = s := rungOf_read s hs
  rw [e] at a
  omega

theorem cmp_scale (a b : Int) (k : Nat) : compare (a * ((2 ^ k : Nat) : Int)) (b * ((2 ^ k : Nat) : Int)) = compare a b := by
  have hp : (0 : Int) < ((2 ^ k : Nat) : Int) := by have := Nat.two_pow_pos k; omega
  rcases Int.lt_trichotomy a b with h | h | h
  · rw [Int.compare_eq_lt.2 h, Int.compare_eq_lt.2 (Int.mul_lt_mul_of_pos_right h hp)]
  · subst h; rw [Int.compare_eq_eq.2 rfl, Int.compare_eq_eq.2 rfl]
  · rw [Int.compare_eq_gt.2 h, Int.compare_eq_gt.2 (Int.mul_lt_mul_of_pos_right h hp)]

theorem order_eq {x y : Nat} (hx : Fin x) (hy : Fin y) : double.order x y = some (compare (S x) (S y)) := by
  unfold Format.order
  rw [read_fin hx, read_fin hy]
  unfold Datum.order
  dsimp only
  have hsg : ∀ (b : Bool) (q u : Nat), signed b q u = sv b (q <<< u) := fun b q u => rfl
  rw [hsg, hsg]
  unfold S V
  generalize mag (rung x) = m
  generalize mag (rung y) = n
  generalize expo (rung x) = e1
  generalize expo (rung y) = e2
  obtain ⟨k, hk⟩ : ∃ k : Nat, k = min e1 e2 := ⟨_, rfl⟩
  have hb : min ((-1074 : Int) + (e1 : Nat)) (-1074 + (e2 : Nat)) = -1074 + (k : Nat) := by omega
  rw [hb]
  have h1 : ((-1074 : Int) + (e1 : Nat) - (-1074 + (k : Nat))).toNat = e1 - k := by omega
  have h2 : ((-1074 : Int) + (e2 : Nat) - (-1074 + (k : Nat))).toNat = e2 - k := by omega
  rw [h1, h2]
  have e1' : m <<< e1 = (m <<< (e1 - k)) * 2 ^ k := by rw [← Nat.shiftLeft_eq, ← Nat.shiftLeft_add]; congr 1; omega
  have e2' : n <<< e2 = (n <<< (e2 - k)) * 2 ^ k := by rw [← Nat.shiftLeft_eq, ← Nat.shiftLeft_add]; congr 1; omega
  rw [e1', e2', sv_scale, sv_scale, cmp_scale]

theorem order_lt {x y : Nat} (hx : Fin x) (hy : Fin y) (h : S x < S y) : double.order x y = some .lt := by
  rw [order_eq hx hy, Int.compare_eq_lt.2 h]
theorem order_gt {x y : Nat} (hx : Fin x) (hy : Fin y) (h : S y < S x) : double.order x y = some .gt := by
  rw [order_eq hx hy, Int.compare_eq_gt.2 h]

/-- a word that is positive and finite -/
theorem S_pos {y : Nat} (h : y < 9223372036854775808) : S y = (V y : Int) := by
  have h1 : sgn y = false := by unfold sgn; simp; omega
  have h2 : rung y = y := by unfold rung; omega
  unfold S sv; rw [h1, h2]; rfl

theorem fin_pos {y : Nat} (h : y < 9218868437227405312) : Fin y := ⟨by omega, by omega⟩

theorem pos_order_lt {x y : Nat} (hy : y < 9218868437227405312) (h : x < y) : double.order x y = some .lt := by
  apply order_lt (fin_pos (by omega)) (fin_pos hy)
  rw [S_pos (by omega), S_pos (by omega)]
  have := V_strict h hy
  omega

theorem pos_order_gt {x y : Nat} (hx : x < 9218868437227405312) (h : y < x) : double.order x y = some .gt := by
  apply order_gt (fin_pos hx) (fin_pos (by omega))
  rw [S_pos (by omega), S_pos (by omega)]
  have := V_strict h hx
  omega

theorem pos_of_sgn {y : Nat} (hy : Fin y) (h : sgn y = false) : y < 9223372036854775808 ∧ rung y = y := by
  have h1 := hy.lt
  unfold sgn at h
  have h2 : y / 9223372036854775808 = 0 := by
    rcases Nat.lt_or_ge y 9223372036854775808 with hc | hc
    · exact Nat.div_eq_of_lt hc
    · have : y / 9223372036854775808 = 1 := by omega
      rw [this] at h; simp at h
  have : y < 9223372036854775808 := by omega
  exact ⟨this, by unfold rung; omega⟩

-- bits

theorem b_abs {y : Nat} (h : y < 9223372036854775808) : bits .andNot .u64 (y : Int) 9223372036854775808 = (y : Int) := by
  have := u64_andNot_nat y 9223372036854775808 (by omega) (by decide)
  rw [show (9223372036854775808 : Int) = ((9223372036854775808 : Nat) : Int) from rfl, this]
  congr 1
  rw [show 18446744073709551615 - 9223372036854775808 = 2 ^ 63 - 1 by decide, Nat.and_two_pow_sub_one_eq_mod]
  omega

theorem b_sign {y : Nat} (h : y < 9223372036854775808) : bits .and .u64 (y : Int) 9223372036854775808 = 0 := by
  have := u64_and_nat y 9223372036854775808 (by omega) (by decide)
  rw [show (9223372036854775808 : Int) = ((9223372036854775808 : Nat) : Int) from rfl, this, nat_hi64_63]
  have : y % 18446744073709551616 / 9223372036854775808 = 0 := by omega
  rw [this]; rfl

theorem b_frac {y : Nat} (h : y < 9223372036854775808) : bits .andNot .u64 (y : Int) 9218868437227405312 = ((y % 4503599627370496 : Nat) : Int) := by
  have := u64_andNot_nat y 9218868437227405312 (by omega) (by decide)
  rw [show (9218868437227405312 : Int) = ((9218868437227405312 : Nat) : Int) from rfl, this]
  congr 1
  have e : 18446744073709551615 - 9218868437227405312 = 9223372036854775808 + 4503599627370495 := by decide
  have e2 : (9223372036854775808 + 4503599627370495 : Nat) = 9223372036854775808 ||| 4503599627370495 := by decide
  rw [e, e2, Nat.and_or_distrib_left, nat_hi64_63, show 4503599627370495 = 2 ^ 52 - 1 by decide, Nat.and_two_pow_sub_one_eq_mod]
  have : y % 18446744073709551616 / 9223372036854775808 = 0 := by omega
  rw [this]; simp

theorem b_join (f e : Nat) (hf : f < 4503599627370496) (he : e < 4096) : bits .or .u64 (f : Int) ((e : Int) * 4503599627370496) = ((e * 4503599627370496 + f : Nat) : Int) := by
  have := u64_or_nat f (e * 4503599627370496) (by omega) (by omega)
  rw [show ((e : Int) * 4503599627370496) = ((e * 4503599627370496 : Nat) : Int) by omega, this, nat_join52' _ _ (by omega) hf]

theorem b_exp {e : Nat} (h : e < 2048) : bits .and .i64 (e : Int) 2047 = (e : Int) := by
  have key : ∀ e : _root_.Fin 2048, bits .and .i64 ((e.val : Nat) : Int) 2047 = ((e.val : Nat) : Int) := by decide +kernel
  exact key ⟨e, h⟩

end Go.Proofs.Ybulkbdbe.Flt
