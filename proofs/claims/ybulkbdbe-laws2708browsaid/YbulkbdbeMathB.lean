import Derived.Test.YbulkbdbeMathA
namespace Go.Proofs.Ybulkbdbe
open Go.RowKit

set_option maxHeartbeats 400000 in
theorem exp2_neginf (w : World) :
    Calls Yba.prog 41 #[.float .f64 18442240474082181120] w fun e w' => e = .returned (.float .f64 0) ∧ w' = w := by
  have h0 : FloatKind.f64.format.order 18442240474082181120 18442240474082181120 = some .eq := by kernel_rfl
  have h1 : FloatKind.f64.format.order 18442240474082181120 4652218415073722367 = some .lt := by kernel_rfl
  have h2 : FloatKind.f64.format.order 18442240474082181120 13875810354254053376 = some .lt := by kernel_rfl
  go_enter Yba.func41, Yba.ntmps41
  go_wp2
  go_ret
  exact ⟨rfl, rfl⟩

theorem fop (op : BinOp) (x y r : Nat) (h : floatBits op .f64 x y = some r) (w : World) :
    (binOp op 46 (.float .f64 x) (.float .f64 y)).run Yba.prog w = .ok (.float .f64 r) w := run_float_arith w op 46 .f64 x y r h

set_option maxHeartbeats 400000 in
theorem expmulti_zero (w : World) :
    Calls Yba.prog 57 #[.float .f64 0, .float .f64 9223372036854775808, .int .i64 0] w fun e w' => e = .returned (.float .f64 4607182418800017408) ∧ w' = w := by
  have hb := run_bits
  have hf := run_frombits
  have a1 := fop .sub 0 9223372036854775808 0 (by kernel_rfl)
  have a2 := fop .mul 0 0 0 (by kernel_rfl)
  have a3 := fop .mul 0 4496342204012209360 0 (by kernel_rfl)
  have a4 := fop .add 13743786778040626161 0 13743786778040626161 (by kernel_rfl)
  have a5 := fop .mul 0 13743786778040626161 9223372036854775808 (by kernel_rfl)
  have a6 := fop .add 4544508515198557740 9223372036854775808 4544508515198557740 (by kernel_rfl)
  have a7 := fop .mul 0 4544508515198557740 0 (by kernel_rfl)
  have a8 := fop .add 13791923578850950547 0 13791923578850950547 (by kernel_rfl)
  have a9 := fop .mul 0 13791923578850950547 9223372036854775808 (by kernel_rfl)
  have b1 := fop .add 4595172819793696085 9223372036854775808 4595172819793696085 (by kernel_rfl)
  have b2 := fop .mul 0 4595172819793696085 0 (by kernel_rfl)
  have b3 := fop .sub 0 0 0 (by kernel_rfl)
  have b4 := fop .sub 4611686018427387904 0 4611686018427387904 (by kernel_rfl)
  have b5 := fop .quo 0 4611686018427387904 0 (by kernel_rfl)
  have b6 := fop .sub 9223372036854775808 0 9223372036854775808 (by kernel_rfl)
  have b7 := fop .sub 4607182418800017408 9223372036854775808 4607182418800017408 (by kernel_rfl)
  have b8 := fop .mul 4607182418800017408 4607182418800017408 4607182418800017408 (by kernel_rfl)
  have h0 : FloatKind.f64.format.order 4607182418800017408 0 = some .gt := by kernel_rfl
  have h1 : FloatKind.f64.format.order 4607182418800017408 9218868437227405311 = some .lt := by kernel_rfl
  have h2 : FloatKind.f64.format.order 4607182418800017408 4607182418800017408 = some .eq := by kernel_rfl
  have h3 : FloatKind.f64.format.order 4607182418800017408 4503599627370496 = some .gt := by kernel_rfl
  have c1 : bits .andNot .u64 4607182418800017408 9223372036854775808 = 4607182418800017408 := by kernel_rfl
  have c2 : bits .and .i64 1023 2047 = 1023 := by kernel_rfl
  have c3 : bits .andNot .u64 4607182418800017408 9218868437227405312 = 0 := by kernel_rfl
  have c4 : bits .or .u64 0 4607182418800017408 = 4607182418800017408 := by kernel_rfl
  go_enter Yba.func57, Yba.ntmps57
  go_wp2
  go_ret
  exact ⟨rfl, rfl⟩

end Go.Proofs.Ybulkbdbe
