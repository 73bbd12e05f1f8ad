import Derived.Test.YbulkbdbeMono
namespace Go.Proofs.Ybulkbdbe.Flt
open Ieee

def sv (s : Bool) (n : Nat) : Int := if s then -(n : Int) else (n : Int)

theorem sv_abs (s : Bool) (n : Nat) : (sv s n).natAbs = n := by unfold sv; split <;> omega

theorem sv_scale (s : Bool) (n k : Nat) : sv s (n * 2 ^ k) = sv s n * ((2 ^ k : Nat) : Int) := by
  unfold sv; split <;> simp [Int.neg_mul]

theorem sv_add_abs (s t : Bool) (a b : Nat) : (sv s a + sv t b).natAbs ≤ a + b := by
  unfold sv; split <;> split <;> omega

theorem word_rung (s : Bool) (r : Nat) (h : r < 9223372036854775808) : rung (double.word s r) = r := by
  rw [word_eq]; unfold rung; cases s <;> simp <;> omega

theorem word_sgn (s : Bool) (r : Nat) (h : r < 9223372036854775808) : sgn (double.word s r) = s := by
  rw [word_eq]; unfold sgn
  cases s
  · simp; omega
  · simp; omega

theorem word_lt (s : Bool) (r : Nat) (h : r < 9223372036854775808) : double.word s r < 18446744073709551616 := by
  rw [word_eq]; cases s <;> simp <;> omega

theorem word_fin (s : Bool) (r : Nat) (h : r < 9218868437227405312) : Fin (double.word s r) := by
  refine ⟨word_lt s r (by omega), ?_⟩
  have := word_rung s r (by omega)
  unfold rung at this
  omega

/-- the sum of two numbers, written -/
theorem sum_eq (s t : Bool) (m n e1 e2 : Nat) :
    (Datum.sum (.number s m (-1074 + (e1 : Nat))) (.number t n (-1074 + (e2 : Nat)))).map double.write =
      some (double.word (if sv s (m <<< e1) + sv t (n <<< e2) = 0 then s && t else decide (sv s (m <<< e1) + sv t (n <<< e2) < 0)) (rungOf (sv s (m <<< e1) + sv t (n <<< e2)).natAbs (-1074))) := by
  unfold Datum.sum
  dsimp only
  have hsg : ∀ (b : Bool) (q u : Nat), signed b q u = sv b (q <<< u) := fun b q u => rfl
  rw [hsg, hsg]
  obtain ⟨k, hk⟩ : ∃ k : Nat, k = min e1 e2 := ⟨_, rfl⟩
  have hb : min ((-1074 : Int) + (e1 : Nat)) (-1074 + (e2 : Nat)) = -1074 + (k : Nat) := by omega
  rw [hb]
  have h1 : ((-1074 : Int) + (e1 : Nat) - (-1074 + (k : Nat))).toNat = e1 - k := by omega
  have h2 : ((-1074 : Int) + (e2 : Nat) - (-1074 + (k : Nat))).toNat = e2 - k := by omega
  rw [h1, h2]
  have e1' : m <<< e1 = (m <<< (e1 - k)) * 2 ^ k := by rw [← Nat.shiftLeft_eq, ← Nat.shiftLeft_add]; congr 1; omega
  have e2' : n <<< e2 = (n <<< (e2 - k)) * 2 ^ k := by rw [← Nat.shiftLeft_eq, ← Nat.shiftLeft_add]; congr 1; omega
  rw [e1', e2', sv_scale, sv_scale, ← Int.add_mul]
  generalize sv s (m <<< (e1 - k)) + sv t (n <<< (e2 - k)) = T
  have hp : (0 : Int) < ((2 ^ k : Nat) : Int) := by have := Nat.two_pow_pos k; omega
  simp only [Option.map_some, Format.write, nearest_rung]
  congr 2
  · by_cases hT : T = 0
    · rw [if_pos hT, if_pos (by rw [hT]; simp)]
    · rw [if_neg hT, if_neg (by
        intro e
        rcases Int.mul_eq_zero.1 e with e | e
        · exact hT e
        · omega)]
      exact decide_eq_decide.2 ⟨fun h => Int.mul_neg_of_neg_of_pos h hp, fun h => by
        apply Int.lt_of_not_ge
        intro hc
        have := Int.mul_nonneg hc (Int.le_of_lt hp)
        omega⟩
  · rw [Int.natAbs_mul, Int.natAbs_natCast, ← Nat.shiftLeft_eq]
    have := rungOf_scale T.natAbs k (-1074 + (k : Nat))
    rw [show (-1074 + (k : Nat) : Int) - k = -1074 by omega] at this
    exact this.symm

/-- the value with its sign -/
def S (x : Nat) : Int := sv (sgn x) (V (rung x))

theorem add_eq {x y : Nat} (hx : Fin x) (hy : Fin y) :
    double.add x y = some (double.word (if S x + S y = 0 then sgn x && sgn y else decide (S x + S y < 0)) (rungOf (S x + S y).natAbs (-1074))) := by
  unfold Format.add
  rw [read_fin hx, read_fin hy]
  exact sum_eq _ _ _ _ _ _

theorem sv_not (s : Bool) (n : Nat) : sv (!s) n = - sv s n := by unfold sv; cases s <;> simp

theorem sub_eq {x y : Nat} (hx : Fin x) (hy : Fin y) :
    double.sub x y = some (double.word (if S x - S y = 0 then sgn x && !sgn y else decide (S x - S y < 0)) (rungOf (S x - S y).natAbs (-1074))) := by
  unfold Format.sub
  rw [read_fin hx, read_fin hy]
  unfold Datum.opposite
  rw [sum_eq]
  have : sv (sgn x) (mag (rung x) <<< expo (rung x)) + sv (!sgn y) (mag (rung y) <<< expo (rung y)) = S x - S y := by
    rw [sv_not]; unfold S V; omega
  rw [this]

theorem mul_eq {x y : Nat} (hx : Fin x) (hy : Fin y) :
    double.mul x y = some (double.word (sgn x ^^ sgn y) (rungOf (V (rung x) * V (rung y)) (-1074 - (1074 : Nat)))) := by
  unfold Format.mul
  rw [read_fin hx, read_fin hy]
  unfold Datum.product
  simp only [Option.map_some, Format.write, nearest_rung]
  congr 2
  rw [← rungOf_scale _ (expo (rung x) + expo (rung y))]
  congr 1
  · unfold V
    rw [Nat.shiftLeft_eq, Nat.shiftLeft_eq, Nat.shiftLeft_eq, Nat.pow_add]
    simp only [Nat.mul_assoc, Nat.mul_comm, Nat.mul_left_comm]
  · omega

/-- finite, of at most the magnitude of rung r -/
structure Bd (x r : Nat) : Prop where
  fin : Fin x
  le : rung x ≤ r

theorem Bd.v {x r : Nat} (h : Bd x r) : V (rung x) ≤ V r := V_mono h.le

theorem Bd.mono {x r s : Nat} (h : Bd x r) (hs : r ≤ s) : Bd x s := ⟨h.fin, Nat.le_trans h.le hs⟩

theorem bd_word (s : Bool) {q r : Nat} (hr : r < 9218868437227405312) (h : q ≤ r) : Bd (double.word s q) r :=
  ⟨word_fin s q (by omega), by rw [word_rung s q (by omega)]; exact h⟩

theorem S_abs (x : Nat) : (S x).natAbs = V (rung x) := sv_abs _ _

theorem add_bd {x y rx ry : Nat} (r : Nat) (hx : Bd x rx) (hy : Bd y ry) (hr : r < 9218868437227405312) (h : V rx + V ry ≤ V r) : ∃ z, double.add x y = some z ∧ Bd z r := by
  refine ⟨_, add_eq hx.fin hy.fin, bd_word _ hr (rungOf_up hr ?_)⟩
  have h1 := hx.v
  have h2 := hy.v
  have h3 := Int.natAbs_add_le (S x) (S y)
  rw [S_abs, S_abs] at h3
  omega

theorem sub_bd {x y rx ry : Nat} (r : Nat) (hx : Bd x rx) (hy : Bd y ry) (hr : r < 9218868437227405312) (h : V rx + V ry ≤ V r) : ∃ z, double.sub x y = some z ∧ Bd z r := by
  refine ⟨_, sub_eq hx.fin hy.fin, bd_word _ hr (rungOf_up hr ?_)⟩
  have h1 := hx.v
  have h2 := hy.v
  have h3 := S_abs x
  have h4 := S_abs y
  omega

theorem mul_bd {x y rx ry : Nat} (r : Nat) (hx : Bd x rx) (hy : Bd y ry) (hr : r < 9218868437227405312) (h : V rx * V ry ≤ V r * 2 ^ 1074) : ∃ z, double.mul x y = some z ∧ Bd z r ∧ sgn z = (sgn x ^^ sgn y) := by
  have hb : rungOf (V (rung x) * V (rung y)) (-1074 - (1074 : Nat)) ≤ r := rungOf_upper' hr (Nat.le_trans (Nat.mul_le_mul hx.v hy.v) h)
  exact ⟨_, mul_eq hx.fin hy.fin, bd_word _ hr hb, word_sgn _ _ (by omega)⟩

end Go.Proofs.Ybulkbdbe.Flt
