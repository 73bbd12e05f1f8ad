import Derived.Test.YbulkbdbeFloat
namespace Go.Proofs.Ybulkbdbe.Flt
open Ieee

/-- float64(n) for an int64: finite, at most 2^64 -/
theorem int_fin (n : Int) (h1 : -9223372036854775808 ≤ n) (h2 : n ≤ 9223372036854775807) :
    Fin (double.nearest (n < 0) n.natAbs 0) ∧ rung (double.nearest (n < 0) n.natAbs 0) ≤ 1087 * 4503599627370496 := by
  have hl : n.natAbs.log2 < 64 := by
    by_cases h0 : n.natAbs = 0
    · rw [h0]; decide
    · exact (Nat.log2_lt h0).2 (by omega)
  obtain ⟨a, b⟩ := nearest_fin (n < 0) n.natAbs 0 (by omega)
  exact ⟨a, b 1087 (by omega) (by omega) (by omega)⟩

theorem mag_log2_le (r : Nat) : (mag r).log2 ≤ 52 := by
  by_cases h : 4503599627370496 ≤ r
  · rw [mag_log2 r h]; exact Nat.le_refl _
  · have : mag r = r := by unfold mag; rw [if_pos (by omega)]
    rw [this]
    by_cases h0 : r = 0
    · subst h0; decide
    · have : r.log2 < 53 := (Nat.log2_lt h0).2 (by omega)
      omega

/-- x / 1e9, x finite and not too great: finite -/
theorem div_giga {x : Nat} (h : Fin x) (hr : rung x ≤ 1087 * 4503599627370496) : ∃ y, double.div x 4741671816366391296 = some y ∧ Fin y ∧ rung y ≤ 1112 * 4503599627370496 := by
  have hg : double.read 4741671816366391296 = .number false 8388608000000000 (-23) := by decide +kernel
  unfold Format.div
  rw [hg, read_fin h]
  unfold Datum.quotient
  dsimp only
  rw [if_neg (by decide)]
  have hgl : (8388608000000000 : Nat).log2 = 52 := by decide +kernel
  rw [hgl, dFb]
  have hml := mag_log2_le (rung x)
  have he : expo (rung x) ≤ 1086 := by unfold expo; omega
  generalize mag (rung x) = m at *
  generalize expo (rung x) = e at *
  generalize hmore : 52 + 2 + 52 - m.log2 = more
  have hd : m <<< more < 2 ^ (m.log2 + 1 + more) := by
    rw [Nat.shiftLeft_eq, Nat.pow_add]
    exact Nat.mul_lt_mul_of_pos_right (lt_log2 m) (Nat.two_pow_pos _)
  generalize m <<< more = dv at *
  have hb : ∀ b : Bool, b.toNat ≤ 1 := fun b => by cases b <;> simp
  have hb' := hb (dv % 8388608000000000 != 0)
  generalize (dv % 8388608000000000 != 0).toNat = t at *
  have hq : dv / 8388608000000000 ≤ dv := Nat.div_le_self _ _
  have hmg : 2 * (dv / 8388608000000000) + t < 2 ^ (m.log2 + more + 2) := by
    have : 2 ^ (m.log2 + more + 2) = 2 * 2 ^ (m.log2 + 1 + more) := by
      rw [show m.log2 + more + 2 = (m.log2 + 1 + more) + 1 from by omega, Nat.pow_succ]; omega
    omega
  have hlg : (2 * (dv / 8388608000000000) + t).log2 ≤ m.log2 + more + 1 := by
    by_cases h0 : 2 * (dv / 8388608000000000) + t = 0
    · rw [h0]; simp
    · have := (Nat.log2_lt h0).2 hmg; omega
  have hf := nearest_fin (sgn x ^^ false) (2 * (dv / 8388608000000000) + t) ((-1074 : Int) + (e : Nat) - -23 - (more : Nat) - 1) (by omega)
  exact ⟨_, rfl, hf.1, hf.2 1112 (by omega) (by omega) (by omega)⟩

theorem inf_sub {x : Nat} (h : Fin x) : double.sub 18442240474082181120 x = some 18442240474082181120 := by
  have h0 : double.read 18442240474082181120 = .infinity true := by decide +kernel
  unfold Format.sub
  rw [h0, read_fin h]
  unfold Datum.opposite Datum.sum
  simp only [Option.map_some, Format.write]
  congr 1

/-- 1 + x: a number, no NaN -/
theorem one_add {x : Nat} (h : Fin x) : ∃ z, double.add 4607182418800017408 x = some z ∧ double.order z z = some .eq := by
  have h0 : double.read 4607182418800017408 = .number false 4503599627370496 (-52) := by decide +kernel
  unfold Format.add
  rw [h0, read_fin h]
  unfold Datum.sum
  dsimp only
  exact ⟨_, rfl, order_self (nearest_read _ _ _)⟩

theorem zero_add' {x : Nat} (h : Fin x) : ∃ y, double.add 0 x = some y ∧ double.order y x = some .eq ∧ double.sub y x = some 0 ∧ y < 18446744073709551616 := by
  refine ⟨_, zero_add h, ?_⟩
  by_cases h0 : rung x = 0
  · rw [if_pos h0]
    have hx : x = 0 ∨ x = 9223372036854775808 := by
      have := h.lt; unfold rung at h0; omega
    rcases hx with rfl | rfl
    · exact ⟨by decide +kernel, by decide +kernel, by decide⟩
    · exact ⟨by decide +kernel, by decide +kernel, by decide⟩
  · rw [if_neg h0]
    exact ⟨order_fin h, sub_self h, h.lt⟩

end Go.Proofs.Ybulkbdbe.Flt
