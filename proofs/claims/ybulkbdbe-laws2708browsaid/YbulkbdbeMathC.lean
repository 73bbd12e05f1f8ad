import Derived.Test.YbulkbdbeMathB
namespace Go.Proofs.Ybulkbdbe
open Go.RowKit

set_option maxHeartbeats 400000 in
theorem exp2_zero (w : World) :
    Calls Yba.prog 41 #[.float .f64 0] w fun e w' => e = .returned (.float .f64 4607182418800017408) ∧ w' = w := by
  have h0 : FloatKind.f64.format.order 0 0 = some .eq := by kernel_rfl
  have h1 : FloatKind.f64.format.order 0 4652218415073722367 = some .lt := by kernel_rfl
  have h2 : FloatKind.f64.format.order 0 13875810354254053376 = some .gt := by kernel_rfl
  have b3 := fop .sub 0 0 0 (by kernel_rfl)
  have b4 := fop .mul 0 4604418534311723008 0 (by kernel_rfl)
  have b5 := fop .mul 9223372036854775808 4461442080421002358 9223372036854775808 (by kernel_rfl)
  have hn : ∀ (w : World), (Op.unary .neg (.float .f64 0)).run Yba.prog w = .ok (.float .f64 9223372036854775808) w := fun _ => rfl
  have hc : floatOfInt .f64 0 = 0 := by kernel_rfl
  go_enter Yba.func41, Yba.ntmps41
  go_wp2_with (first | (go_at_call 57; refine (expmulti_zero _).mono ?_; rintro e w' ⟨rfl, rfl⟩) | (go_at_call 50; go_in) | (go_at_call 56; go_in))
  go_ret
  exact ⟨rfl, rfl⟩

set_option maxHeartbeats 400000 in
theorem log2_one (w : World) :
    Calls Yba.prog 48 #[.float .f64 4607182418800017408] w fun e w' => e = .returned (.float .f64 0) ∧ w' = w := by
  have hb := run_bits
  have hf := run_frombits
  have h0 : FloatKind.f64.format.order 4607182418800017408 0 = some .gt := by kernel_rfl
  have h1 : FloatKind.f64.format.order 4607182418800017408 9218868437227405311 = some .lt := by kernel_rfl
  have h2 : FloatKind.f64.format.order 4607182418800017408 4607182418800017408 = some .eq := by kernel_rfl
  have h3 : FloatKind.f64.format.order 4607182418800017408 4503599627370496 = some .gt := by kernel_rfl
  have h4 : FloatKind.f64.format.order 4602678819172646912 4602678819172646912 = some .eq := by kernel_rfl
  have c1 : bits .andNot .u64 4607182418800017408 9223372036854775808 = 4607182418800017408 := by kernel_rfl
  have c2 : bits .and .u64 1023 2047 = 1023 := by kernel_rfl
  have c3 : bits .andNot .u64 4607182418800017408 9218868437227405312 = 0 := by kernel_rfl
  have c4 : bits .or .u64 0 4602678819172646912 = 4602678819172646912 := by kernel_rfl
  have hc : floatOfInt .f64 0 = 0 := by kernel_rfl
  go_enter Yba.func48, Yba.ntmps48
  go_wp2
  go_ret
  exact ⟨rfl, rfl⟩

set_option maxHeartbeats 400000 in
theorem log2_two (w : World) :
    Calls Yba.prog 48 #[.float .f64 4611686018427387904] w fun e w' => e = .returned (.float .f64 4607182418800017408) ∧ w' = w := by
  have hb := run_bits
  have hf := run_frombits
  have h0 : FloatKind.f64.format.order 4611686018427387904 0 = some .gt := by kernel_rfl
  have h1 : FloatKind.f64.format.order 4611686018427387904 9218868437227405311 = some .lt := by kernel_rfl
  have h2 : FloatKind.f64.format.order 4611686018427387904 4611686018427387904 = some .eq := by kernel_rfl
  have h3 : FloatKind.f64.format.order 4611686018427387904 4503599627370496 = some .gt := by kernel_rfl
  have h4 : FloatKind.f64.format.order 4602678819172646912 4602678819172646912 = some .eq := by kernel_rfl
  have c1 : bits .andNot .u64 4611686018427387904 9223372036854775808 = 4611686018427387904 := by kernel_rfl
  have c2 : bits .and .u64 1024 2047 = 1024 := by kernel_rfl
  have c3 : bits .andNot .u64 4611686018427387904 9218868437227405312 = 0 := by kernel_rfl
  have c4 : bits .or .u64 0 4602678819172646912 = 4602678819172646912 := by kernel_rfl
  have hc : floatOfInt .f64 1 = 4607182418800017408 := by kernel_rfl
  go_enter Yba.func48, Yba.ntmps48
  go_wp2
  go_ret
  exact ⟨rfl, rfl⟩
end Go.Proofs.Ybulkbdbe
