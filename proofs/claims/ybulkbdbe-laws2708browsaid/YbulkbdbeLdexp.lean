import Derived.Test.YbulkbdbeWord
import Derived.Test.YbulkbdbeMathB
namespace Go.Proofs.Ybulkbdbe
open Go.RowKit Flt Ieee

theorem fmul {x y z : Nat} (h : double.mul x y = some z) (w : World) : (binOp .mul 46 (.float .f64 x) (.float .f64 y)).run Yba.prog w = .ok (.float .f64 z) w := fop .mul x y z h w
theorem fadd {x y z : Nat} (h : double.add x y = some z) (w : World) : (binOp .add 46 (.float .f64 x) (.float .f64 y)).run Yba.prog w = .ok (.float .f64 z) w := fop .add x y z h w
theorem fsub {x y z : Nat} (h : double.sub x y = some z) (w : World) : (binOp .sub 46 (.float .f64 x) (.float .f64 y)).run Yba.prog w = .ok (.float .f64 z) w := fop .sub x y z h w
theorem fdiv {x y z : Nat} (h : double.div x y = some z) (w : World) : (binOp .quo 46 (.float .f64 x) (.float .f64 y)).run Yba.prog w = .ok (.float .f64 z) w := fop .quo x y z h w

/-- one, and 2^-53, times a positive number -/
theorem mul_small {x m : Nat} (hx : x < 9218868437227405312) (hm : m ≤ 4607182418800017408) : ∃ v, double.mul m x = some v ∧ v < 9218868437227405312 := by
  have hV : V m ≤ 2 ^ 1074 := by
    have h1 := V_mono hm
    have h2 : V 4607182418800017408 = 2 ^ 1074 := by decide +kernel
    rw [h2] at h1; exact h1
  have fx : Flt.Fin x := fin_pos hx
  have fm : Flt.Fin m := fin_pos (by omega)
  have rx : rung x = x := by unfold rung; omega
  have rm : rung m = m := by unfold rung; omega
  have sx : sgn x = false := by unfold sgn; simp; omega
  have sm : sgn m = false := by unfold sgn; simp; omega
  obtain ⟨v, h1, h2, h3⟩ := mul_bd (rx := m) (ry := x) x ⟨fm, Nat.le_of_eq rm⟩ ⟨fx, Nat.le_of_eq rx⟩ hx (by rw [Nat.mul_comm]; exact Nat.mul_le_mul_left _ hV)
  rw [sx, sm] at h3
  have := pos_of_sgn h2.fin (by simpa using h3)
  exact ⟨v, h1, by have := h2.le; omega⟩

set_option maxHeartbeats 1000000 in
set_option maxRecDepth 100000 in
theorem ldexp_any (y : Nat) (k : Int) (h1 : 4593671619917905920 ≤ y) (h2 : y ≤ 4611686018427387904) (k1 : -2000 ≤ k) (k2 : k ≤ 2000) (w : World) :
    Calls Yba.prog 60 #[.float .f64 y, .int .i64 k] w fun e w' => (∃ v, e = .returned (.float .f64 v) ∧ v ≤ 9218868437227405312) ∧ w' = w := by
  have hb := run_bits
  have hf := run_frombits
  have o1 : FloatKind.f64.format.order y 0 = some .gt := pos_order_gt (by omega) (by omega)
  have o2 : FloatKind.f64.format.order y 9218868437227405311 = some .lt := pos_order_lt (by omega) (by omega)
  have o3 : FloatKind.f64.format.order y y = some .eq := order_fin (fin_pos (by omega))
  have o4 : FloatKind.f64.format.order y 4503599627370496 = some .gt := pos_order_gt (by omega) (by omega)
  have c1 := b_abs (y := y) (by omega)
  have c2 := b_sign (y := y) (by omega)
  have c3 := b_frac (y := y) (by omega)
  have c5 : bits .andNot .u64 0 9223372036854775808 = 0 := by kernel_rfl
  have c6 : bits .or .u64 0 0 = 0 := by kernel_rfl
  have c4 : bits .and .i64 ((y : Int) / 4503599627370496) 2047 = ((y / 4503599627370496 : Nat) : Int) := by
    have := b_exp (e := y / 4503599627370496) (by omega)
    rw [← this]; simp
  have q1 : 1020 ≤ y / 4503599627370496 := by omega
  have q2 : y / 4503599627370496 ≤ 1024 := by omega
  have hfr : y % 4503599627370496 < 4503599627370496 := Nat.mod_lt _ (by decide)
  have c7 : ∀ (E : Int), 0 ≤ E → E < 4096 → bits .or .u64 ((y % 4503599627370496 : Nat) : Int) (E * 4503599627370496) = ((E.toNat * 4503599627370496 + y % 4503599627370496 : Nat) : Int) := fun E e1 e2 => by
    have := b_join (y % 4503599627370496) E.toNat hfr (by omega)
    rw [← this, Int.toNat_of_nonneg e1]
  generalize y / 4503599627370496 = q at *
  generalize y % 4503599627370496 = fr at *
  have q1' : (1020 : Int) ≤ (q : Int) := by omega
  have q2' : (q : Int) ≤ 1024 := by omega
  by_cases hA : k + ((q : Int) - 1023) < -1075
  · go_enter Yba.func60, Yba.ntmps60
    go_wp2
    go_ret
    exact ⟨⟨_, rfl, by decide⟩, rfl⟩
  by_cases hB : 1023 < k + ((q : Int) - 1023)
  · have hA' : -1075 ≤ k + ((q : Int) - 1023) := by omega
    go_enter Yba.func60, Yba.ntmps60
    go_wp2
    go_ret
    exact ⟨⟨_, rfl, by decide⟩, rfl⟩
  have hA' : -1075 ≤ k + ((q : Int) - 1023) := by omega
  have hB' : k + ((q : Int) - 1023) ≤ 1023 := by omega
  by_cases hC : k + ((q : Int) - 1023) < -1022
  · have d1 := c7 (k + ((q : Int) - 1023) + 53 + 1023) (by omega) (by omega)
    have hx : (k + ((q : Int) - 1023) + 53 + 1023).toNat * 4503599627370496 + fr < 9218868437227405312 := by omega
    generalize (k + ((q : Int) - 1023) + 53 + 1023).toNat * 4503599627370496 + fr = x at *
    obtain ⟨v, v1, v2⟩ := mul_small (m := 4368491638549381120) hx (by decide)
    have d2 := fmul v1
    clear c7
    go_enter Yba.func60, Yba.ntmps60
    go_wp2
    go_ret
    exact ⟨⟨_, rfl, by omega⟩, rfl⟩
  · have hC' : -1022 ≤ k + ((q : Int) - 1023) := by omega
    have d1 := c7 (k + ((q : Int) - 1023) + 1023) (by omega) (by omega)
    have hx : (k + ((q : Int) - 1023) + 1023).toNat * 4503599627370496 + fr < 9218868437227405312 := by omega
    generalize (k + ((q : Int) - 1023) + 1023).toNat * 4503599627370496 + fr = x at *
    obtain ⟨v, v1, v2⟩ := mul_small (m := 4607182418800017408) hx (by decide)
    have d2 := fmul v1
    clear c7
    go_enter Yba.func60, Yba.ntmps60
    go_wp2
    go_ret
    exact ⟨⟨_, rfl, by omega⟩, rfl⟩

end Go.Proofs.Ybulkbdbe
