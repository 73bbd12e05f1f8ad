import Derived.Test.YbulkbdbeRed
namespace Go.Proofs.Ybulkbdbe
open Go.RowKit Flt Ieee

theorem neg_eq (x : Nat) : Op.negFloat .f64 x = x ^^^ 2 ^ 63 := rfl

theorem neg_mod (x : Nat) : Op.negFloat .f64 x % 9223372036854775808 = x % 9223372036854775808 := by
  rw [neg_eq, show (9223372036854775808 : Nat) = 2 ^ 63 by decide, Nat.xor_mod_two_pow]
  simp

theorem neg_div {x : Nat} (h : x < 18446744073709551616) : Op.negFloat .f64 x / 9223372036854775808 = 1 - x / 9223372036854775808 := by
  rw [neg_eq, show (9223372036854775808 : Nat) = 2 ^ 63 by decide, Nat.xor_div_two_pow]
  have h2 : x / 2 ^ 63 = 0 ∨ x / 2 ^ 63 = 1 := by omega
  rcases h2 with h2 | h2 <;> rw [h2] <;> decide

theorem neg_word {x : Nat} (h : Flt.Fin x) : Flt.Fin (Op.negFloat .f64 x) ∧ rung (Op.negFloat .f64 x) = rung x := by
  have h1 := neg_mod x
  have h2 := neg_div h.lt
  have h3 := h.fin
  generalize Op.negFloat .f64 x = y at *
  refine ⟨⟨by omega, by omega⟩, ?_⟩
  unfold rung; omega

theorem neg_bd {x r : Nat} (h : Bd x r) : Bd (Op.negFloat .f64 x) r := ⟨(neg_word h.fin).1, by rw [(neg_word h.fin).2]; exact h.le⟩

theorem ord_gt {x y : Nat} (hx : Flt.Fin x) (hy : Flt.Fin y) : (FloatKind.f64.format.order x y == some Ordering.gt) = decide (S y < S x) := by
  have := order_eq hx hy
  rw [show FloatKind.f64.format.order x y = _ from this]
  rcases Int.lt_trichotomy (S x) (S y) with h | h | h
  · rw [Int.compare_eq_lt.2 h, decide_eq_false (by omega)]; rfl
  · rw [Int.compare_eq_eq.2 h, decide_eq_false (by omega)]; rfl
  · rw [Int.compare_eq_gt.2 h, decide_eq_true h]; rfl

theorem ord_lt {x y : Nat} (hx : Flt.Fin x) (hy : Flt.Fin y) : (FloatKind.f64.format.order x y == some Ordering.lt) = decide (S x < S y) := by
  have := order_eq hx hy
  rw [show FloatKind.f64.format.order x y = _ from this]
  rcases Int.lt_trichotomy (S x) (S y) with h | h | h
  · rw [Int.compare_eq_lt.2 h, decide_eq_true h]; rfl
  · rw [Int.compare_eq_eq.2 h, decide_eq_false (by omega)]; rfl
  · rw [Int.compare_eq_gt.2 h, decide_eq_false (by omega)]; rfl

theorem fin_c (c : Nat) (h : c < 18446744073709551616 ∧ c % 9223372036854775808 < 9218868437227405312) : Flt.Fin c := ⟨h.1, h.2⟩

theorem S_zero : S 0 = 0 := by decide +kernel
theorem S_over : S 4652218415073722367 = (V 4652218415073722367 : Int) := S_pos (by decide)
theorem S_under : S 13875810354254053376 = -((1074 * U : Nat) : Int) := by decide +kernel

/-- hi and lo of expmulti out of t -/
theorem hilo {t : Nat} (ht : Bd t 4604930618986332160) : ∃ hi lo, double.mul t 4604418534311723008 = some hi ∧ double.mul (Op.negFloat .f64 t) 4461442080421002358 = some lo ∧ Bd hi 4602949035150289142 ∧ Bd lo 4461797156714954171 := by
  obtain ⟨hi, e1, h1, _⟩ := mul_bd 4602949035150289142 ht (bdc 4604418534311723008 4604418534311723008 (by decide) (by decide)) (by decide) (by decide +kernel)
  obtain ⟨lo, e2, h2, _⟩ := mul_bd 4461797156714954171 (neg_bd ht) (bdc 4461442080421002358 4461442080421002358 (by decide) (by decide)) (by decide) (by decide +kernel)
  exact ⟨hi, lo, e1, e2, h1, h2⟩

set_option maxHeartbeats 2000000 in
set_option maxRecDepth 100000 in
theorem exp2_fin (x : Nat) (hx : Flt.Fin x) (w : World) :
    Calls Yba.prog 41 #[.float .f64 x] w fun e w' => (∃ v, e = .returned (.float .f64 v) ∧ v ≤ 9218868437227405312) ∧ w' = w := by
  have hb := run_bits
  have hf := run_frombits
  have o0 : FloatKind.f64.format.order x x = some .eq := order_fin hx
  have o1 := ord_gt hx (fin_c 4652218415073722367 (by decide))
  have o2 := ord_lt hx (fin_c 13875810354254053376 (by decide))
  have o3 := ord_gt hx (fin_c 0 (by decide))
  have o4 := ord_lt hx (fin_c 0 (by decide))
  have hn := run_neg
  by_cases hA : S 4652218415073722367 < S x
  · rw [decide_eq_true hA] at o1
    clear o2 o3 o4
    go_enter Yba.func41, Yba.ntmps41
    go_wp2
    go_ret
    exact ⟨⟨_, rfl, by decide⟩, rfl⟩
  rw [decide_eq_false hA] at o1
  by_cases hB : S x < S 13875810354254053376
  · rw [decide_eq_true hB] at o2
    clear o3 o4
    go_enter Yba.func41, Yba.ntmps41
    go_wp2
    go_ret
    exact ⟨⟨_, rfl, by decide⟩, rfl⟩
  rw [decide_eq_false hB] at o2
  rw [S_zero] at o3 o4
  have hA' : S x ≤ (V 4652218415073722367 : Int) := by rw [← S_over]; exact Int.not_lt.1 hA
  have hB' : -((1075 * U : Nat) : Int) ≤ S x := by
    have h1 := Int.not_lt.1 hB
    rw [S_under] at h1
    generalize U = uu at *
    omega
  by_cases hC : 0 < S x
  · have hC' : ¬ S x < 0 := by omega
    rw [decide_eq_true hC] at o3
    rw [decide_eq_false hC'] at o4
    obtain ⟨z, K, t, r1, r2, r3, r4, r5⟩ := red_pos hx hC hA'
    obtain ⟨hi, lo, e1, e2, b1, b2⟩ := hilo r5
    have g1 := fadd r1
    have g2 : ∀ w, (convert 46 3 (.float .f64 z)).run Yba.prog w = .ok (.int .i64 (K : Int)) w := fun w => run_convert_float_int w 46 3 .f64 .i64 z _ (by rw [Yba.underlying46]; rfl) Yba.underlying3 r2
    have g3 := fsub r4
    have g4 := fmul e1
    have g5 := fmul e2
    have HC : True := trivial
    clear hC hC' r1 r2 r4 r5
    have HM : Hid (Calls Yba.prog 57 #[.float .f64 hi, .float .f64 lo, .int .i64 (K : Int)] w fun e w' => (∃ v, e = .returned (.float .f64 v) ∧ v ≤ 9218868437227405312) ∧ w' = w) := expmulti_any hi lo (K : Int) b1 b2 (by omega) (by omega) w
    clear b1 b2 e1 e2 hA hB hA' hB' hx HC
    go_enter Yba.func41, Yba.ntmps41
    go_wp2_with (first | (go_at_call 57; refine HM.out.mono ?_; rintro e w' ⟨⟨v, rfl, hv⟩, rfl⟩) | (go_at_call 50; go_in) | (go_at_call 56; go_in))
    go_ret
    exact ⟨⟨v, rfl, hv⟩, rfl⟩
  by_cases hD : S x < 0
  · rw [decide_eq_false hC] at o3
    rw [decide_eq_true hD] at o4
    obtain ⟨z, K, t, r1, r2, r3, r4, r5⟩ := red_neg hx hD hB'
    obtain ⟨hi, lo, e1, e2, b1, b2⟩ := hilo r5
    have g1 := fsub r1
    have g2 : ∀ w, (convert 46 3 (.float .f64 z)).run Yba.prog w = .ok (.int .i64 (-(K : Int))) w := fun w => run_convert_float_int w 46 3 .f64 .i64 z _ (by rw [Yba.underlying46]; rfl) Yba.underlying3 r2
    have g3 := fsub r4
    have g4 := fmul e1
    have g5 := fmul e2
    have HC : True := trivial
    clear hC hD r1 r2 r4 r5
    have HM : Hid (Calls Yba.prog 57 #[.float .f64 hi, .float .f64 lo, .int .i64 (-(K : Int))] w fun e w' => (∃ v, e = .returned (.float .f64 v) ∧ v ≤ 9218868437227405312) ∧ w' = w) := expmulti_any hi lo (-(K : Int)) b1 b2 (by omega) (by omega) w
    clear b1 b2 e1 e2 hA hB hA' hB' hx HC
    go_enter Yba.func41, Yba.ntmps41
    go_wp2_with (first | (go_at_call 57; refine HM.out.mono ?_; rintro e w' ⟨⟨v, rfl, hv⟩, rfl⟩) | (go_at_call 50; go_in) | (go_at_call 56; go_in))
    go_ret
    exact ⟨⟨v, rfl, hv⟩, rfl⟩
  · rw [decide_eq_false hC] at o3
    rw [decide_eq_false hD] at o4
    have hz : S x = 0 := by omega
    have fz : Flt.Fin (floatOfInt .f64 0) := fin_c _ (by decide +kernel)
    have sz : S (floatOfInt .f64 0) = 0 := by decide +kernel
    have r4 := sub_eq hx fz
    rw [hz, sz] at r4
    have r5 : Bd (double.word (if (0 : Int) - 0 = 0 then sgn x && !sgn (floatOfInt .f64 0) else decide ((0 : Int) - 0 < 0)) (rungOf ((0 : Int) - 0).natAbs (-1074))) 4604930618986332160 := bd_word _ (by decide) (by
      have : rungOf ((0 : Int) - 0).natAbs (-1074) = 0 := by decide
      rw [this]; decide)
    generalize double.word (if (0 : Int) - 0 = 0 then sgn x && !sgn (floatOfInt .f64 0) else decide ((0 : Int) - 0 < 0)) (rungOf ((0 : Int) - 0).natAbs (-1074)) = t at *
    obtain ⟨hi, lo, e1, e2, b1, b2⟩ := hilo r5
    have g3 := fsub r4
    have g4 := fmul e1
    have g5 := fmul e2
    have HC : True := trivial
    clear hC hD hz fz sz r4 r5
    have HM : Hid (Calls Yba.prog 57 #[.float .f64 hi, .float .f64 lo, .int .i64 0] w fun e w' => (∃ v, e = .returned (.float .f64 v) ∧ v ≤ 9218868437227405312) ∧ w' = w) := expmulti_any hi lo 0 b1 b2 (by omega) (by omega) w
    clear b1 b2 e1 e2 hA hB hA' hB' hx HC
    go_enter Yba.func41, Yba.ntmps41
    go_wp2_with (first | (go_at_call 57; refine HM.out.mono ?_; rintro e w' ⟨⟨v, rfl, hv⟩, rfl⟩) | (go_at_call 50; go_in) | (go_at_call 56; go_in))
    go_ret
    exact ⟨⟨v, rfl, hv⟩, rfl⟩

set_option maxHeartbeats 1000000 in
theorem exp2_inf (w : World) :
    Calls Yba.prog 41 #[.float .f64 9218868437227405312] w fun e w' => (∃ v, e = .returned (.float .f64 v) ∧ v ≤ 9218868437227405312) ∧ w' = w := by
  have hb := run_bits
  have hf := run_frombits
  have h0 : FloatKind.f64.format.order 9218868437227405312 9218868437227405312 = some .eq := by kernel_rfl
  have h1 : FloatKind.f64.format.order 9218868437227405312 4652218415073722367 = some .gt := by kernel_rfl
  go_enter Yba.func41, Yba.ntmps41
  go_wp2
  go_ret
  exact ⟨⟨_, rfl, by decide⟩, rfl⟩

end Go.Proofs.Ybulkbdbe
