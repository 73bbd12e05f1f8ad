import Derived.Test.YbulkbdbeAny
namespace Go.Proofs.Ybulkbdbe
open Go.RowKit Flt Ieee

theorem conv_any (z : Nat) (w : World) : ∃ n w', (convert 46 2 (.float .f64 z)).run Yba.prog w = .ok (.int .i64 n) w' ∧ (w' = w ∨ w' = w.drew) ∧ -9223372036854775808 ≤ n ∧ n ≤ 9223372036854775807 := by
  cases h : floatToIntVal .f64 z .i64 with
  | some n =>
    have hw := floatToIntVal_wf h
    refine ⟨n, w, run_convert_float_int w 46 2 .f64 .i64 z n (by rw [Yba.underlying46]; rfl) Yba.underlying2 h, .inl rfl, ?_⟩
    unfold floatToIntVal at h
    split at h
    · split at h
      · rename_i hb
        cases h
        have m1 : IntKind.i64.min = -9223372036854775808 := by decide
        have m2 : IntKind.i64.max = 9223372036854775807 := by decide
        rw [m1, m2] at hb
        exact hb
      · cases h
    · cases h
  | none =>
    refine ⟨IntKind.i64.wrap ((Question.floatToInt .f64 z .i64).cut (w.tape w.drawn (.floatToInt .f64 z .i64))), w.drew, ?_, .inr rfl, ?_⟩
    · unfold floatToIntVal at h
      split at h
      · rename_i m he
        split at h
        · cases h
        · rename_i hb
          simp only [convert, Sem.run_bind, run_underlying Yba.underlying46, run_underlying Yba.underlying2, Result.andThen, Conv.floatToInt, he, if_neg hb]
          simp
          rfl
      · rename_i he
        simp only [convert, Sem.run_bind, run_underlying Yba.underlying46, run_underlying Yba.underlying2, Result.andThen, Conv.floatToInt, he]
        simp
        rfl
    · have m1 : IntKind.i64.min = -9223372036854775808 := by decide
      have m2 : IntKind.i64.max = 9223372036854775807 := by decide
      simp [IntKind.wrap, IntKind.bits, IntKind.signed]
      split <;> omega

set_option maxHeartbeats 1000000 in
set_option maxRecDepth 100000 in
theorem round_any (y : Nat) (h : y ≤ 9218868437227405312) (w : World) :
    Calls Yba.prog 28 #[.float .f64 y] w fun e w' => (∃ v, e = .returned (.float .f64 v)) ∧ w' = w := by
  have hb := run_bits
  have hf := run_frombits
  have c4 : bits .and .u64 ((y : Int) / 4503599627370496) 2047 = ((y / 4503599627370496 : Nat) : Int) := by
    have := b_frexp (q := y / 4503599627370496) (by omega)
    rw [← this]; simp
  have q2 : y / 4503599627370496 ≤ 2047 := by omega
  generalize y / 4503599627370496 = q at *
  have q2' : (q : Int) ≤ 2047 := by omega
  have hy' : (y : Int) ≤ 9218868437227405312 := by omega
  go_enter Yba.func28, Yba.ntmps28
  go_wp2
  all_goals (go_ret; exact ⟨⟨_, rfl⟩, rfl⟩)

end Go.Proofs.Ybulkbdbe
