import Derived.Test.YbulkbdbeBd
namespace Go.Proofs.Ybulkbdbe.Flt
open Ieee

/-- one, in units of 2^-1074 -/
def U : Nat := 1 <<< 1074

theorem V_one : V 4607182418800017408 = U := by decide +kernel
theorem V_three : V 4613937818241073152 = 3 * U := by decide +kernel
theorem V_two : V 4611686018427387904 = 2 * U := by decide +kernel
theorem V_eighth : 8 * V 4593671619917905920 = U := by decide +kernel
theorem V_7eighths : 8 * V 4606056518893174784 = 7 * U := by decide +kernel
theorem U_pos : 0 < U := by decide +kernel

theorem mag_ne {r : Nat} (h : r ≠ 0) : mag r ≠ 0 := fun e => h ((mag_zero r).1 e)

/-- |x / y| ≤ |x| where |y| ≥ 1 -/
theorem div_bd {x y rx : Nat} (hx : Bd x rx) (hr : rx < 9218868437227405312) (hy : Fin y) (h1 : 4607182418800017408 ≤ rung y) : ∃ z, double.div x y = some z ∧ Bd z rx := by
  unfold Format.div
  rw [read_fin hx.fin, read_fin hy]
  unfold Datum.quotient
  dsimp only
  have hn0 : mag (rung y) ≠ 0 := mag_ne (by omega)
  rw [if_neg hn0]
  have hyl : (mag (rung y)).log2 = 52 := mag_log2 _ (by omega)
  have hye : 1022 ≤ expo (rung y) := by unfold expo; omega
  have hxl := mag_log2_le (rung x)
  rw [hyl, dFb]
  have hv := hx.v
  have hVx : V (rung x) = mag (rung x) <<< expo (rung x) := rfl
  simp only [Option.map_some, Format.write, nearest_rung]
  refine ⟨_, rfl, bd_word _ hr ?_⟩
  generalize mag (rung y) = n at *
  generalize expo (rung y) = ey at *
  generalize mag (rung x) = m at *
  generalize expo (rung x) = ex at *
  generalize hmore : 52 + 2 + 52 - m.log2 = more
  generalize hN : m <<< (54 - m.log2) = N
  have hdv : m <<< more = N * 2 ^ 52 := by
    rw [← hN, ← Nat.shiftLeft_eq, ← Nat.shiftLeft_add]; congr 1; omega
  have hn : 2 ^ 52 ≤ n := by rw [← hyl]; exact Nat.log2_self_le hn0
  rw [hdv]
  have hq : 2 * (N * 2 ^ 52 / n) + (N * 2 ^ 52 % n != 0).toNat ≤ 2 * N := by
    have hle : N * 2 ^ 52 / n ≤ N := by
      apply Nat.div_le_of_le_mul
      rw [Nat.mul_comm]
      exact Nat.mul_le_mul_right _ hn
    by_cases he : N * 2 ^ 52 / n = N
    · have hmod := Nat.div_add_mod (N * 2 ^ 52) n
      rw [he] at hmod
      have h2 : N * 2 ^ 52 ≤ n * N := by rw [Nat.mul_comm n N]; exact Nat.mul_le_mul_left _ hn
      have h0 : N * 2 ^ 52 % n = 0 := by omega
      rw [h0, he]; simp
    · have := toNat_le_one (N * 2 ^ 52 % n != 0)
      omega
  refine Nat.le_trans (rungOf_mono _ hq) ?_
  have e1 : 2 * N = m <<< (55 - m.log2) := by
    rw [← hN, show 55 - m.log2 = (54 - m.log2) + 1 by omega, Nat.shiftLeft_add, Nat.shiftLeft_eq _ 1]; omega
  have e2 : rungOf (m <<< (55 - m.log2)) ((-1074 : Int) + (ex : Nat) - (-1074 + (ey : Nat)) - (more : Nat) - 1) = rungOf m ((ex : Int) - (ey : Nat) - 52) := by
    have := rungOf_scale m (55 - m.log2) ((ex : Int) - (ey : Nat) - 52)
    rw [← this]
    congr 1
    omega
  rw [e1, e2]
  have e3 : rungOf m ((ex : Int) - (ey : Nat) - 52) ≤ rungOf (m <<< ex) (-1074) := by
    obtain ⟨d, hd⟩ : ∃ d : Nat, d + 1022 = ey := ⟨ey - 1022, by omega⟩
    have h3 : m ≤ m <<< d := by rw [Nat.shiftLeft_eq]; exact Nat.le_mul_of_pos_right _ (Nat.two_pow_pos d)
    refine Nat.le_trans (rungOf_mono _ h3) ?_
    have h4 := rungOf_scale m d ((ex : Int) - 1074)
    have h5 := rungOf_scale m ex ((ex : Int) - 1074)
    rw [show (ex : Int) - 1074 - (ex : Nat) = -1074 by omega] at h5
    rw [h5, ← h4]
    apply Nat.le_of_eq
    congr 1
    omega
  refine Nat.le_trans e3 ?_
  rw [hVx] at hv
  exact rungOf_up hr hv

theorem S_two : S 4611686018427387904 = ((2 * U : Nat) : Int) := by decide +kernel
theorem S_one : S 4607182418800017408 = ((U : Nat) : Int) := by decide +kernel
theorem fin_two : Fin 4611686018427387904 := ⟨by decide, by decide⟩
theorem fin_one : Fin 4607182418800017408 := ⟨by decide, by decide⟩

/-- a positive sum, written: between two rungs, and positive -/
theorem word_between {D : Int} {lo hi : Nat} (b : Bool) (hhi : hi < 9218868437227405312) (h1 : V lo ≤ D.natAbs) (h2 : D.natAbs ≤ V hi) (h0 : 0 < D) :
    Fin (double.word (if D = 0 then b else decide (D < 0)) (rungOf D.natAbs (-1074))) ∧ lo ≤ rung (double.word (if D = 0 then b else decide (D < 0)) (rungOf D.natAbs (-1074))) ∧ rung (double.word (if D = 0 then b else decide (D < 0)) (rungOf D.natAbs (-1074))) ≤ hi ∧ sgn (double.word (if D = 0 then b else decide (D < 0)) (rungOf D.natAbs (-1074))) = false := by
  have hlh : lo ≤ hi := by
    apply Nat.le_of_not_lt
    intro hc
    have a := rungOf_up hhi h2
    have := V_mono (Nat.le_of_lt hc)
    have e : V hi = V lo := by omega
    have p1 := rungOf_read hi hhi
    have : rungOf (V lo) (-1074) = hi := by rw [← e]; exact p1
    by_cases hl : lo < 9218868437227405312
    · have p2 := rungOf_read lo hl
      have p3 : rungOf (V lo) (-1074) = lo := p2
      omega
    · have q := V_mono (show hi ≤ 9218868437227405311 by omega)
      have q2 := V_mono (show 9218868437227405311 ≤ lo by omega)
      have p3 := rungOf_read 9218868437227405311 (by decide)
      have e3 : V 9218868437227405311 = V lo := by omega
      have p4 : rungOf (V 9218868437227405311) (-1074) = 9218868437227405311 := p3
      rw [e3] at p4
      have : V 9218868437227405312 ≤ V lo := V_mono (by omega)
      have e4 : V 9218868437227405311 < V 9218868437227405312 := by decide +kernel
      omega
  have hu := rungOf_up hhi h2
  have hl := rungOf_lo (show lo < 9218868437227405312 by omega) h1
  have hneg : (if D = 0 then b else decide (D < 0)) = false := by
    rw [if_neg (by omega)]; exact decide_eq_false (by omega)
  rw [hneg]
  generalize rungOf D.natAbs (-1074) = q at *
  refine ⟨word_fin _ _ (by omega), ?_, ?_, word_sgn _ _ (by omega)⟩
  · rw [word_rung _ _ (by omega)]; exact hl
  · rw [word_rung _ _ (by omega)]; exact hu

/-- 2 - c and 2 + c, |c| ≤ 1: at least 1 -/
theorem two_sub {c : Nat} (hc : Bd c 4607182418800017408) : ∃ z, double.sub 4611686018427387904 c = some z ∧ Fin z ∧ 4607182418800017408 ≤ rung z := by
  have h1 := S_abs c
  have h2 := hc.v
  have hU := U_pos
  rw [V_one] at h2
  refine ⟨_, sub_eq fin_two hc.fin, ?_⟩
  rw [S_two]
  have := word_between (D := ((2 * U : Nat) : Int) - S c) (lo := 4607182418800017408) (hi := 4613937818241073152) (sgn 4611686018427387904 && !sgn c) (by decide) (by rw [V_one]; omega) (by rw [V_three]; omega) (by omega)
  exact ⟨this.1, this.2.1⟩

theorem two_add {c : Nat} (hc : Bd c 4607182418800017408) : ∃ z, double.add 4611686018427387904 c = some z ∧ Fin z ∧ 4607182418800017408 ≤ rung z := by
  have h1 := S_abs c
  have h2 := hc.v
  have hU := U_pos
  rw [V_one] at h2
  refine ⟨_, add_eq fin_two hc.fin, ?_⟩
  rw [S_two]
  have := word_between (D := ((2 * U : Nat) : Int) + S c) (lo := 4607182418800017408) (hi := 4613937818241073152) (sgn 4611686018427387904 && sgn c) (by decide) (by rw [V_one]; omega) (by rw [V_three]; omega) (by omega)
  exact ⟨this.1, this.2.1⟩

/-- 1 - z, |z| ≤ 7/8: positive, from 1/8 to 2 -/
theorem one_sub {z : Nat} (hz : Bd z 4606056518893174784) : ∃ y, double.sub 4607182418800017408 z = some y ∧ Fin y ∧ 4593671619917905920 ≤ rung y ∧ rung y ≤ 4611686018427387904 ∧ sgn y = false := by
  have h1 := S_abs z
  have h2 := hz.v
  have hU := U_pos
  have h3 := V_7eighths
  have h4 := V_eighth
  refine ⟨_, sub_eq fin_one hz.fin, ?_⟩
  rw [S_one]
  exact word_between (D := ((U : Nat) : Int) - S z) (lo := 4593671619917905920) (hi := 4611686018427387904) (sgn 4607182418800017408 && !sgn z) (by decide) (by omega) (by rw [V_two]; omega) (by omega)

/-- y + 1, y finite and not negative: positive, at least 1, perhaps infinite -/
theorem add_one' {y : Nat} (hy : Fin y) (hs : sgn y = false) : ∃ v, double.add y 4607182418800017408 = some v ∧ 4607182418800017408 ≤ v ∧ v ≤ 9218868437227405312 := by
  have hS : S y = (V (rung y) : Int) := by unfold S sv; rw [hs]; rfl
  have hU := U_pos
  refine ⟨_, add_eq hy fin_one, ?_⟩
  rw [S_one, hS]
  have hl := rungOf_lo (m := ((V (rung y) : Int) + ((U : Nat) : Int)).natAbs) (r := 4607182418800017408) (by decide) (by rw [V_one]; omega)
  have hu := rungOf_le ((V (rung y) : Int) + ((U : Nat) : Int)).natAbs (-1074)
  have hneg : (if (V (rung y) : Int) + ((U : Nat) : Int) = 0 then sgn y && sgn 4607182418800017408 else decide ((V (rung y) : Int) + ((U : Nat) : Int) < 0)) = false := by
    rw [if_neg (by omega)]; exact decide_eq_false (by omega)
  rw [hneg, word_eq, if_neg (by decide)]
  generalize rungOf ((V (rung y) : Int) + ((U : Nat) : Int)).natAbs (-1074) = q at *
  exact ⟨hl, hu⟩

theorem inf_add {y : Nat} (hy : Fin y) : double.add 9218868437227405312 y = some 9218868437227405312 := by
  have h0 : double.read 9218868437227405312 = .infinity false := by decide +kernel
  unfold Format.add
  rw [h0, read_fin hy]
  rfl

theorem inf_sub' {y : Nat} (hy : Fin y) : double.sub 9218868437227405312 y = some 9218868437227405312 := by
  have h0 : double.read 9218868437227405312 = .infinity false := by decide +kernel
  unfold Format.sub
  rw [h0, read_fin hy]
  rfl

/-- a whole number of units of 2^e, of at most 53 digits, is written exactly -/
theorem V_rungOf (a e : Nat) (ha : a < 9007199254740992) (he : e ≤ 1400) : rungOf (a <<< e) (-1074) < 9218868437227405312 ∧ V (rungOf (a <<< e) (-1074)) = a <<< e := by
  by_cases h0 : a = 0
  · subst h0
    simp [rungOf, V, mag, expo]
  have hal : a.log2 < 53 := (Nat.log2_lt h0).2 (by omega)
  -- bring a to 53 digits, or e to nothing
  by_cases hc : e + a.log2 ≤ 52
  · have hlt : a <<< e < 9007199254740992 := by
      rw [Nat.shiftLeft_eq]
      have h1 : a * 2 ^ e < 2 ^ (a.log2 + 1) * 2 ^ e := Nat.mul_lt_mul_of_pos_right (lt_log2 a) (Nat.two_pow_pos e)
      rw [← Nat.pow_add] at h1
      have h2 : 2 ^ (a.log2 + 1 + e) ≤ 2 ^ 53 := Nat.pow_le_pow_right (by decide) (by omega)
      have h3 : (2 : Nat) ^ 53 = 9007199254740992 := by decide
      omega
    generalize a <<< e = n at *
    have hV : V n = n := by
      unfold V mag expo
      split
      · rw [show n / 4503599627370496 - 1 = 0 by omega, Nat.shiftLeft_zero]
      · rw [show n / 4503599627370496 - 1 = 0 by omega, Nat.shiftLeft_zero]; omega
    have := rungOf_read n (by omega)
    have h4 : rungOf (V n) (-1074) = n := this
    rw [hV] at h4
    rw [h4]
    exact ⟨by omega, hV⟩
  · obtain ⟨b, hb⟩ : ∃ b : Nat, b = a <<< (52 - a.log2) := ⟨_, rfl⟩
    obtain ⟨f, hf⟩ : ∃ f : Nat, f + (52 - a.log2) = e := ⟨e - (52 - a.log2), by omega⟩
    have e1 : a <<< e = b <<< f := by rw [hb, ← Nat.shiftLeft_add]; congr 1; omega
    have hbl : b.log2 = 52 := by rw [hb, log2_mul_pow _ _ h0]; omega
    have hb0 : b ≠ 0 := fun e => by rw [e] at hbl; simp at hbl
    have hb1 : 4503599627370496 ≤ b := by
      have := Nat.log2_self_le hb0; rw [hbl] at this
      have h3 : (2 : Nat) ^ 52 = 4503599627370496 := by decide
      omega
    have hb2 : b < 9007199254740992 := by
      have := lt_log2 b; rw [hbl] at this
      have h3 : (2 : Nat) ^ (52 + 1) = 9007199254740992 := by decide
      omega
    obtain ⟨r, hr⟩ : ∃ r : Nat, r = (f + 1) * 4503599627370496 + (b - 4503599627370496) := ⟨_, rfl⟩
    have hrq : r / 4503599627370496 = f + 1 := by omega
    have hrm : r % 4503599627370496 = b - 4503599627370496 := by omega
    have hV : V r = b <<< f := by
      unfold V mag expo
      rw [if_neg (by omega), hrq, hrm, show 4503599627370496 + (b - 4503599627370496) = b by omega, show f + 1 - 1 = f by omega]
    have hr1 : r < 9218868437227405312 := by omega
    have h4 : rungOf (V r) (-1074) = r := rungOf_read r hr1
    rw [hV, ← e1] at h4
    rw [h4]
    exact ⟨hr1, by rw [hV, e1]⟩

end Go.Proofs.Ybulkbdbe.Flt
