import Derived.Test.YbulkbdbeLog
namespace Go.Proofs.Ybulkbdbe
open Go.RowKit Flt Ieee

set_option maxHeartbeats 2000000 in
set_option maxRecDepth 100000 in
theorem log2_inf (w : World) :
    Calls Yba.prog 48 #[.float .f64 9218868437227405312] w fun e w' => e = .returned (.float .f64 9218868437227405312) ∧ w' = w := by
  have hb := run_bits
  have hf := run_frombits
  have hl := run_log_inf
  have h0 : FloatKind.f64.format.order 9218868437227405312 0 = some .gt := by kernel_rfl
  have h1 : FloatKind.f64.format.order 9218868437227405312 9218868437227405311 = some .gt := by kernel_rfl
  have h4 : FloatKind.f64.format.order 9218868437227405312 4602678819172646912 = some .gt := by kernel_rfl
  have c1 : bits .andNot .u64 9218868437227405312 9223372036854775808 = 9218868437227405312 := by kernel_rfl
  have hc : floatOfInt .f64 0 = 0 := by kernel_rfl
  have a1 := fop .mul 9218868437227405312 4609176140021203710 9218868437227405312 (by kernel_rfl)
  have a2 := fop .add 9218868437227405312 0 9218868437227405312 (by kernel_rfl)
  go_enter Yba.func48, Yba.ntmps48
  go_wp2
  go_ret
  exact ⟨rfl, rfl⟩

set_option maxHeartbeats 2000000 in
set_option maxRecDepth 100000 in
theorem log2_fin (v : Nat) (h1 : 4607182418800017408 ≤ v) (h2 : v < 9218868437227405312) (w : World) :
    Calls Yba.prog 48 #[.float .f64 v] w fun e w' => (∃ y, e = .returned (.float .f64 y) ∧ Bd y 4661225614328463360) ∧ w' = w := by
  have hb := run_bits
  have hf := run_frombits
  have o1 : FloatKind.f64.format.order v 0 = some .gt := pos_order_gt (by omega) (by omega)
  have o2 : (FloatKind.f64.format.order v 9218868437227405311 == some Ordering.gt) = false := by
    rw [ord_gt (fin_pos h2) (fin_c 9218868437227405311 (by decide)), S_pos (by omega), S_pos (by omega)]
    have := V_mono (show v ≤ 9218868437227405311 by omega)
    exact decide_eq_false (by omega)
  have o3 : FloatKind.f64.format.order v v = some .eq := order_fin (fin_pos (by omega))
  have o4 : FloatKind.f64.format.order v 4503599627370496 = some .gt := pos_order_gt (by omega) (by omega)
  have c1 := b_abs (y := v) (by omega)
  have c3 := b_frac (y := v) (by omega)
  have c4 : bits .and .u64 ((v : Int) / 4503599627370496) 2047 = ((v / 4503599627370496 : Nat) : Int) := by
    have := b_frexp (q := v / 4503599627370496) (by omega)
    rw [← this]; simp
  have q1 : 1023 ≤ v / 4503599627370496 := by omega
  have q2 : v / 4503599627370496 ≤ 2046 := by omega
  have hfr : v % 4503599627370496 < 4503599627370496 := Nat.mod_lt _ (by decide)
  have c7 : bits .or .u64 ((v % 4503599627370496 : Nat) : Int) 4602678819172646912 = ((4602678819172646912 + v % 4503599627370496 : Nat) : Int) := by
    have := b_join (v % 4503599627370496) 1022 hfr (by decide)
    rw [show ((1022 : Nat) : Int) * 4503599627370496 = 4602678819172646912 by decide] at this
    rw [this]
  generalize v / 4503599627370496 = q at *
  generalize v % 4503599627370496 = fr at *
  have q1' : (1023 : Int) ≤ (q : Int) := by omega
  have q2' : (q : Int) ≤ 2046 := by omega
  by_cases h0 : fr = 0
  · subst h0
    have o5 : FloatKind.f64.format.order 4602678819172646912 4602678819172646912 = some .eq := by kernel_rfl
    have c7' : bits .or .u64 0 4602678819172646912 = 4602678819172646912 := by kernel_rfl
    clear c7
    go_enter Yba.func48, Yba.ntmps48
    go_wp2
    go_ret
    exact ⟨⟨_, rfl, (int_bd _ (by omega) (by omega)).mono (by decide)⟩, rfl⟩
  · have o5 : FloatKind.f64.format.order (4602678819172646912 + fr) 4602678819172646912 = some .gt := pos_order_gt (by omega) (by omega)
    obtain ⟨z, hz, hl⟩ := run_log (4602678819172646912 + fr) (by omega) (by omega)
    generalize 4602678819172646912 + fr = x at *
    obtain ⟨m, em, hm, _⟩ := mul_bd 4652218415073722368 hz (bdc 4609176140021203710 4609176140021203710 (by decide) (by decide)) (by decide) (by decide +kernel)
    obtain ⟨y, ey, hy⟩ := add_bd 4661225614328463360 hm (int_bd ((q : Int) - 1023 + 1) (by omega) (by omega)) (by decide) (by decide +kernel)
    have g1 := fmul em
    have g2 := fadd ey
    clear hz em hm ey
    go_enter Yba.func48, Yba.ntmps48
    go_wp2
    go_ret
    exact ⟨⟨y, rfl, hy⟩, rfl⟩

end Go.Proofs.Ybulkbdbe
