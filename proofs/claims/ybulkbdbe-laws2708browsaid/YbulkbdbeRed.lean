import Derived.Test.YbulkbdbeMulti
namespace Go.Proofs.Ybulkbdbe
open Go.RowKit Flt Ieee

theorem U_eq : ∃ N, N = 1074 ∧ U = 2 ^ N := ⟨1074, rfl, by decide +kernel⟩

theorem trunc_fin {z : Nat} (hz : Flt.Fin z) : (double.read z).toInt .zero = some (sv (sgn z) (V (rung z) / U)) := by
  rw [read_fin hz]
  unfold Datum.toInt Datum.integral
  dsimp only
  have hsg : ∀ (b : Bool) (q u : Nat), signed b q u = sv b (q <<< u) := fun b q u => rfl
  rw [hsg, Nat.shiftLeft_zero]
  congr 2
  unfold V
  generalize mag (rung z) = m
  generalize expo (rung z) = e
  obtain ⟨N, hN, hU⟩ := U_eq
  rw [hU]
  clear hU
  unfold Toward.cut
  dsimp only
  simp only [Bool.toNat_false, Nat.add_zero]
  by_cases he : N ≤ e
  · have h1 : ((-1074 : Int) + (e : Nat)).toNat = e - N := by omega
    have h2 : (-((-1074 : Int) + (e : Nat))).toNat = 0 := by omega
    rw [h1, h2, Nat.zero_min, Nat.shiftLeft_zero, Nat.div_one]
    obtain ⟨d, rfl⟩ : ∃ d, e = d + N := ⟨e - N, by omega⟩
    rw [Nat.add_sub_cancel, Nat.shiftLeft_eq, Nat.shiftLeft_eq, Nat.pow_add, ← Nat.mul_assoc, Nat.mul_div_cancel _ (Nat.two_pow_pos _)]
  · have h1 : ((-1074 : Int) + (e : Nat)).toNat = 0 := by omega
    have h2 : (-((-1074 : Int) + (e : Nat))).toNat = N - e := by omega
    rw [h1, h2, Nat.shiftLeft_zero, Nat.shiftLeft_eq, Nat.shiftLeft_eq, Nat.one_mul]
    obtain ⟨d, hd⟩ : ∃ d, N - e = d := ⟨_, rfl⟩
    have hp : 2 ^ N = 2 ^ d * 2 ^ e := by rw [← Nat.pow_add]; congr 1; omega
    rw [hp, Nat.mul_div_mul_right _ _ (Nat.two_pow_pos e), hd]
    by_cases hc : d ≤ m.log2 + 2
    · rw [Nat.min_eq_left hc]
    · rw [Nat.min_eq_right (by omega)]
      have hl := lt_log2 m
      rw [Nat.div_eq_of_lt (Nat.lt_of_lt_of_le hl (Nat.pow_le_pow_right (by decide) (by omega))), Nat.div_eq_of_lt (Nat.lt_of_lt_of_le hl (Nat.pow_le_pow_right (by decide) (by omega)))]

theorem toInt_val {z : Nat} (hz : Flt.Fin z) (h : V (rung z) / U ≤ 1000000) : floatToIntVal .f64 z .i64 = some (sv (sgn z) (V (rung z) / U)) := by
  unfold floatToIntVal
  have h1 : (FloatKind.f64.decode z).toInt .zero = some (sv (sgn z) (V (rung z) / U)) := trunc_fin hz
  rw [h1]
  dsimp only
  generalize V (rung z) / U = q at *
  rw [if_pos]
  have m1 : IntKind.i64.min = -9223372036854775808 := by decide
  have m2 : IntKind.i64.max = 9223372036854775807 := by decide
  rw [m1, m2]
  unfold sv
  split <;> omega

/-- a small whole number as a float: exactly -/
theorem int_S (s : Bool) (K : Nat) (hK : K ≤ 2000) : Flt.Fin (floatOfInt .f64 (sv s K)) ∧ S (floatOfInt .f64 (sv s K)) = sv s (K * U) := by
  have e : floatOfInt .f64 (sv s K) = double.nearest (decide (sv s K < 0)) (sv s K).natAbs 0 := rfl
  rw [e, sv_abs, nearest_rung]
  obtain ⟨N, hN, hU⟩ := U_eq
  have hsc := rungOf_scale K N 0
  have h74 : (0 : Int) - (N : Nat) = -1074 := by omega
  rw [h74] at hsc
  rw [← hsc]
  have hv := V_rungOf K N (by omega) (by omega)
  have hKU : K <<< N = K * U := by rw [Nat.shiftLeft_eq, hU]
  rw [hKU] at hv ⊢
  clear hU hKU hsc
  have h0 : K = 0 → K * U = 0 := fun h => by rw [h, Nat.zero_mul]
  generalize K * U = KU at *
  generalize rungOf KU (-1074) = r at *
  refine ⟨word_fin _ _ hv.1, ?_⟩
  unfold S
  rw [word_sgn _ _ (by omega), word_rung _ _ (by omega), hv.2]
  cases s with
  | false =>
    have : decide (sv false K < 0) = false := decide_eq_false (by unfold sv; simp)
    rw [this]
  | true =>
    by_cases hc : K = 0
    · rw [h0 hc]
      cases (decide (sv true K < 0)) <;> rfl
    · have : decide (sv true K < 0) = true := decide_eq_true (by unfold sv; simp; omega)
      rw [this]

theorem U_four' (M : Nat) (hM : M = 1072) : ∃ u M, U = 4 * u ∧ M = 1072 ∧ u = 2 ^ M ∧ 2 * V 4602678819172646912 = 4 * u ∧ 4 * V 4604930618986332160 = 12 * u ∧ V 4652218415073722367 ≤ 4096 * u ∧ V 4656722014701092864 = 8192 * u ∧ 0 < u :=
  ⟨2 ^ M, M, by subst hM; decide +kernel, hM, rfl, by subst hM; decide +kernel, by subst hM; decide +kernel, by subst hM; decide +kernel, by subst hM; decide +kernel, Nat.two_pow_pos M⟩
theorem U_four : ∃ u M, U = 4 * u ∧ M = 1072 ∧ u = 2 ^ M ∧ 2 * V 4602678819172646912 = 4 * u ∧ 4 * V 4604930618986332160 = 12 * u ∧ V 4652218415073722367 ≤ 4096 * u ∧ V 4656722014701092864 = 8192 * u ∧ 0 < u := U_four' 1072 rfl

/-- what the rounded sum, cut to a whole number, comes to -/
theorem near_whole {X Z K u M : Nat} (hM : M = 1072) (hu : u = 2 ^ M) (hup : 0 < u) (hX : X ≤ 4400 * u) (hZ : Z = V (rungOf (X + 2 * u) (-1074))) (hK : K = Z / (4 * u)) :
    K ≤ 1101 ∧ X ≤ K * (4 * u) + 3 * u ∧ K * (4 * u) ≤ X + 3 * u := by
  have rep : ∀ a, a < 9007199254740992 → ∃ r, r < 9218868437227405312 ∧ V r = a * u := fun a ha => by
    have h := V_rungOf a M ha (by omega)
    refine ⟨_, h.1, ?_⟩
    rw [h.2, hu, Nat.shiftLeft_eq]
  clear hu
  have up : ∀ a, a < 9007199254740992 → X + 2 * u ≤ a * u → Z ≤ a * u := fun a ha h => by
    obtain ⟨r, r1, r2⟩ := rep a ha
    rw [← r2] at h ⊢
    rw [hZ]; exact V_mono (rungOf_up r1 h)
  have lo : ∀ a, a < 9007199254740992 → a * u ≤ X + 2 * u → a * u ≤ Z := fun a ha h => by
    obtain ⟨r, r1, r2⟩ := rep a ha
    rw [← r2] at h ⊢
    rw [hZ]
    exact V_mono (rungOf_lo r1 h)
  clear rep hZ
  have hZ1 : Z ≤ 4402 * u := up 4402 (by decide) (by omega)
  have hUp : 0 < 4 * u := by omega
  have k1 : K * (4 * u) ≤ Z := by rw [hK]; exact Nat.div_mul_le_self Z _
  have k2 : Z < K * (4 * u) + 4 * u := by
    have := Nat.lt_div_mul_add hUp (a := Z)
    rw [← hK] at this; omega
  have hKb : K ≤ 1101 := by
    rw [hK]
    apply Nat.le_of_lt_succ
    rw [Nat.div_lt_iff_lt_mul hUp]
    omega
  clear hK
  refine ⟨hKb, ?_, ?_⟩
  · apply Nat.le_of_not_lt
    intro hc
    have e : (4 * K + 5) * u = K * (4 * u) + 5 * u := by rw [Nat.add_mul, Nat.mul_assoc, Nat.mul_left_comm]
    have := lo (4 * K + 5) (by omega) (by rw [e]; omega)
    omega
  · apply Nat.le_of_not_lt
    intro hc
    have hK0 : 1 ≤ K := by
      apply Nat.pos_of_ne_zero
      intro e0
      rw [e0] at hc
      omega
    have e : (4 * K - 1) * u + u = K * (4 * u) := by
      obtain ⟨j, rfl⟩ : ∃ j, K = j + 1 := ⟨K - 1, by omega⟩
      rw [show 4 * (j + 1) - 1 = 4 * j + 3 by omega, Nat.add_mul, Nat.add_mul, Nat.mul_assoc, Nat.mul_left_comm]
      omega
    have := up (4 * K - 1) (by omega) (by omega)
    omega

theorem red_pos {x : Nat} (hx : Flt.Fin x) (h0 : 0 < S x) (h1 : S x ≤ (V 4652218415073722367 : Int)) :
    ∃ (z K t : Nat), double.add x 4602678819172646912 = some z ∧ floatToIntVal .f64 z .i64 = some ((K : Int)) ∧ K ≤ 1101 ∧ double.sub x (floatOfInt .f64 ((K : Int))) = some t ∧ Bd t 4604930618986332160 := by
  obtain ⟨u, M, hU, hM, hu, hhf, h34, hov, h2k, hup⟩ := U_four
  have fh : Flt.Fin 4602678819172646912 := ⟨by decide, by decide⟩
  have hSh : S 4602678819172646912 = ((2 * u : Nat) : Int) := by
    rw [S_pos (by decide)]
    generalize V 4602678819172646912 = vh at *
    omega
  obtain ⟨X, hX⟩ : ∃ X : Nat, S x = (X : Int) := ⟨(S x).toNat, by omega⟩
  rw [hX] at h0 h1
  have hXb : X ≤ 4400 * u := by
    generalize V 4652218415073722367 = vo at *
    omega
  have hadd := add_eq hx fh
  rw [hX, hSh] at hadd
  have hsum : ((X : Int) + ((2 * u : Nat) : Int)).natAbs = X + 2 * u := by clear hov h2k h34 hhf h1 hU; omega
  have hneg : (if (X : Int) + ((2 * u : Nat) : Int) = 0 then sgn x && sgn 4602678819172646912 else decide ((X : Int) + ((2 * u : Nat) : Int) < 0)) = false := by
    clear hov h2k h34 hhf h1 hU
    rw [if_neg (by omega)]; exact decide_eq_false (by omega)
  rw [hsum, hneg] at hadd
  have hw := near_whole (X := X) (Z := V (rungOf (X + 2 * u) (-1074))) (K := V (rungOf (X + 2 * u) (-1074)) / (4 * u)) hM hu hup hXb rfl rfl
  have hrb : rungOf (X + 2 * u) (-1074) ≤ 4656722014701092864 := rungOf_up (by decide) (by
    rw [h2k]; clear hov h2k h34 hhf h1 hU; omega)
  clear hsum hneg hov h2k hhf h1 hu
  generalize rungOf (X + 2 * u) (-1074) = rz at *
  have fz : Flt.Fin (double.word false rz) := word_fin _ _ (by omega)
  have hwr : rung (double.word false rz) = rz := word_rung _ _ (by omega)
  have hws : sgn (double.word false rz) = false := word_sgn _ _ (by omega)
  have hti := toInt_val fz (by rw [hwr, hU]; omega)
  rw [hwr, hws, hU] at hti
  clear hwr hws fz
  generalize V rz / (4 * u) = K at *
  have hsv : sv false K = (K : Int) := rfl
  rw [hsv] at hti
  obtain ⟨fk, hk⟩ := int_S false K (by omega)
  rw [hsv, hU] at hk
  rw [hsv] at fk
  have hk' : S (floatOfInt .f64 ((K : Int))) = ((K * (4 * u) : Nat) : Int) := hk
  refine ⟨_, K, _, hadd, hti, hw.1, sub_eq hx fk, bd_word _ (by decide) (rungOf_up (by decide) ?_)⟩
  rw [hX, hk']
  generalize V 4604930618986332160 = v34 at *
  obtain ⟨w1, w2, w3⟩ := hw
  clear hadd hti hk hk' fk
  generalize K * (4 * u) = q at *
  omega

theorem red_neg {x : Nat} (hx : Flt.Fin x) (h0 : S x < 0) (h1 : -((1075 * U : Nat) : Int) ≤ S x) :
    ∃ (z K t : Nat), double.sub x 4602678819172646912 = some z ∧ floatToIntVal .f64 z .i64 = some (-(K : Int)) ∧ K ≤ 1101 ∧ double.sub x (floatOfInt .f64 (-(K : Int))) = some t ∧ Bd t 4604930618986332160 := by
  obtain ⟨u, M, hU, hM, hu, hhf, h34, hov, h2k, hup⟩ := U_four
  have fh : Flt.Fin 4602678819172646912 := ⟨by decide, by decide⟩
  have hSh : S 4602678819172646912 = ((2 * u : Nat) : Int) := by
    rw [S_pos (by decide)]
    generalize V 4602678819172646912 = vh at *
    omega
  obtain ⟨X, hX⟩ : ∃ X : Nat, S x = -(X : Int) := ⟨(-S x).toNat, by omega⟩
  rw [hX] at h0 h1
  have hXb : X ≤ 4400 * u := by
    rw [hU] at h1
    omega
  have hadd := sub_eq hx fh
  rw [hX, hSh] at hadd
  have hsum : (-(X : Int) - ((2 * u : Nat) : Int)).natAbs = X + 2 * u := by clear hov h2k h34 hhf h1 hU; omega
  have hneg : (if -(X : Int) - ((2 * u : Nat) : Int) = 0 then sgn x && !sgn 4602678819172646912 else decide (-(X : Int) - ((2 * u : Nat) : Int) < 0)) = true := by
    clear hov h2k h34 hhf h1 hU
    rw [if_neg (by omega)]; exact decide_eq_true (by omega)
  rw [hsum, hneg] at hadd
  have hw := near_whole (X := X) (Z := V (rungOf (X + 2 * u) (-1074))) (K := V (rungOf (X + 2 * u) (-1074)) / (4 * u)) hM hu hup hXb rfl rfl
  have hrb : rungOf (X + 2 * u) (-1074) ≤ 4656722014701092864 := rungOf_up (by decide) (by
    rw [h2k]; clear hov h2k h34 hhf h1 hU; omega)
  clear hsum hneg hov h2k hhf h1 hu
  generalize rungOf (X + 2 * u) (-1074) = rz at *
  have fz : Flt.Fin (double.word true rz) := word_fin _ _ (by omega)
  have hwr : rung (double.word true rz) = rz := word_rung _ _ (by omega)
  have hws : sgn (double.word true rz) = true := word_sgn _ _ (by omega)
  have hti := toInt_val fz (by rw [hwr, hU]; omega)
  rw [hwr, hws, hU] at hti
  clear hwr hws fz
  generalize V rz / (4 * u) = K at *
  have hsv : sv true K = -(K : Int) := rfl
  rw [hsv] at hti
  obtain ⟨fk, hk⟩ := int_S true K (by omega)
  rw [hsv, hU] at hk
  rw [hsv] at fk
  have hk' : S (floatOfInt .f64 (-(K : Int))) = -((K * (4 * u) : Nat) : Int) := hk
  refine ⟨_, K, _, hadd, hti, hw.1, sub_eq hx fk, bd_word _ (by decide) (rungOf_up (by decide) ?_)⟩
  rw [hX, hk']
  generalize V 4604930618986332160 = v34 at *
  obtain ⟨w1, w2, w3⟩ := hw
  clear hadd hti hk hk' fk
  generalize K * (4 * u) = q at *
  omega

end Go.Proofs.Ybulkbdbe
