/- The proof of 'Rows.LawS2708BExactSaid': the frame is the guide's own; the walk is ours. -/
import Derived.Test.YbulkbdbeSt
import Derived.WalkKit
import Derived.ProofKit
import Derived.OpenShut
import Derived.ShutString
namespace Go.Proofs.Ybulkbdbe.lawS2708BExact
open Go.ChangeShapes Go.WideShapes Go.ChangeAt Go.RowKit
open Go.ChangeMaps (open_string shut_string)
set_option linter.unusedVariables false

theorem own : ownKnob Yba.prog.godebug = none := by kernel_rfl

/-! ### STEP 1: THE WALK: the Go text returns true. -/
set_option maxHeartbeats 1600000 in
theorem walk (a0 : Int) (a1 : Int) (w0 : (Lit.int .i64 a0).wf = true) (w1 : (Lit.int .i64 a1).wf = true) (w : World) :
    Calls Yba.prog 6 #[.int .i64 a0, .int .i64 a1] w fun e w' => e = .returned (.bool true) ∧ Grown w w' := by
  obtain ⟨b1, b2⟩ := bounds_i64 w0
  clear w0 w1
  obtain ⟨i1, i2⟩ := Flt.int_fin a0 b1 b2
  obtain ⟨x, hx, fx, _⟩ := Flt.div_giga i1 i2
  obtain ⟨y, hy, oy, sy, ly⟩ := Flt.zero_add' fx
  obtain ⟨z, hz, oz⟩ := Flt.one_add fx
  have hq : floatBits .quo .f64 (floatOfInt .f64 a0) 4741671816366391296 = some x := hx
  have v1 : Gives 29 #[.float .f64 18442240474082181120, .int .i64 a0] 0 := valueAt_of _ _ x _ _ hq (Flt.inf_sub fx) exp2_neginf
  have r1 : Gives 40 #[.float .f64 4607182418800017408, .int .i64 a0] y := rankOf_of _ _ x 0 y hq log2_one hy
  have v2 : Gives 29 #[.float .f64 y, .int .i64 a0] 4607182418800017408 := valueAt_of _ _ x 0 _ hq sy exp2_zero
  have r2 : Gives 40 #[.float .f64 4611686018427387904, .int .i64 a0] z := rankOf_of _ _ x 4607182418800017408 z hq log2_two hz
  have s1 : Gives 25 #[.float .f64 0] 4607182418800017408 := succ_of _ _ (by kernel_rfl)
  have s2 : Gives 25 #[.float .f64 4607182418800017408] 4611686018427387904 := succ_of _ _ (by kernel_rfl)
  have q1 := fop .quo _ _ _ hq
  have q2 := fop .add _ _ _ (show floatBits .add .f64 4607182418800017408 x = some z from hz)
  have q3 : FloatKind.f64.format.order y x = some .eq := oy
  have q4 : FloatKind.f64.format.order z z = some .eq := oz
  have nf : negInfB 18442240474082181120 = true := by decide +kernel
  clear hx hy oy sy hz oz hq i1 i2 b1 b2
  go_enter Yba.func6, Yba.ntmps6
  go_wp2_with fail
  have st0 : St w w.heap.size 0 (w.alloc (.cells #[.int .u64 0] 39)) := ⟨by simp, by simp, (Grown.refl w).alloc _ _⟩
  refine (succopen_st w _ _ _ _ st0 (Nat.le_refl _) (by decide +kernel)).mono ?_
  rintro e w1 ⟨rfl, st1⟩
  go_wp2_with fail
  refine (rank_st w _ _ _ st1).mono ?_
  rintro e w2 ⟨rfl, rfl⟩
  go_wp2_with fail
  refine (isinf_neg _ _).mono ?_
  rintro e w3 ⟨rfl, rfl⟩
  go_wp2_with fail
  refine (failed_st w _ _ _ _ _ _ _ st1 (Nat.le_refl _) v1 s1 r1).mono ?_
  rintro e w4 ⟨rfl, st4⟩
  clear st1
  go_wp2_with fail
  refine (rank_st w _ _ _ st4).mono ?_
  rintro e w5 ⟨rfl, rfl⟩
  go_wp2_with fail
  refine (load_st w _ _ _ st4).mono ?_
  rintro e w6 ⟨rfl, rfl⟩
  go_wp2_with fail
  refine (aband_st w _ _ _ _ st4).mono ?_
  rintro e w7 ⟨rfl, st7⟩
  clear st4
  go_wp2_with fail
  refine (load_st w _ _ _ st7).mono ?_
  rintro e w8 ⟨rfl, rfl⟩
  go_wp2_with fail
  refine (failed_st w _ _ _ _ _ _ _ st7 (Nat.le_refl _) v2 s2 r2).mono ?_
  rintro e w9 ⟨rfl, st9⟩
  clear st7
  go_wp2_with fail
  refine (rank_st w _ _ _ st9).mono ?_
  rintro e w10 ⟨rfl, rfl⟩
  go_wp2_with fail
  refine (succ_st w _ _ _ _ st9 (Nat.le_refl _)).mono ?_
  rintro e w11 ⟨rfl, y', hy', st11⟩
  clear st9
  go_wp2_with fail
  refine (rank_st w _ _ _ st11).mono ?_
  rintro e w12 ⟨rfl, rfl⟩
  go_wp2_with fail
  refine (isinf_neg _ _).mono ?_
  rintro e w13 ⟨rfl, rfl⟩
  go_wp2
  go_ret
  exact ⟨rfl, st11.grown⟩

/-! ### THE ROW's STEP: WRITTEN OUT: LEAVE IT -/
set_option maxRecDepth 100000 in
theorem lifted (os : Os) (started : os.Started) (H : Type) (enc : TypeId × Value → H) :
    ReturnsInHanded {} Yba.checked os 6 .any (Rows.lawS2708BExactSpec.pre6 enc Yba.prog Yba.f6 Rows.lawS2708BExactRow.domain false) (Rows.lawS2708BExactSpec.post enc Yba.prog Yba.f6 false true false false) := by
  refine returnsInHanded_of_change (C := Yba.checked) own started (by kernel_rfl) Yba.func6
    (ChangeSpec.witness6 (enc := enc) (C := Yba.checked) false ⟨#[], #[.int .i64 0, .int .i64 0], []⟩ 8 (by kernel_rfl) (by kernel_rfl) (by kernel_rfl) (by kernel_rfl)) ?_
  intro W base args ds gs before hval0 hW hcnd _
  have hval : ∀ (j : Nat) t v, Yba.f6.params[j]? = some t → args[j]? = some v → Value.okWide Yba.prog W .any base t v := hval0
  have hW' := hW
  obtain ⟨p, q, hA0, hV, rfl, hfz, hnd⟩ := hW
  have hA : DataW.TrodAll enc Yba.prog W 0 (fun _ => true) true Yba.f6.params.toList args.toList ds p := hA0
  rw [Yba.params6] at hA hval
  obtain ⟨v0, vs0, d0, ds0, p0, q0, hargs, rfl, rfl, h0, r0⟩ := trodAll_cons hA
  obtain ⟨v1, vs1, d1, ds1, p1, q1, rfl, rfl, rfl, h1, r1⟩ := trodAll_cons r0
  obtain ⟨rfl, rfl, rfl⟩ := trodAll_nil r1
  obtain rfl : args = #[v0, v1] := by cases args; simp_all
  obtain ⟨rfl, rfl⟩ := trodVars_none hV
  obtain ⟨a0, rfl, rfl, rfl, w0⟩ := open_int Yba.underlying2 (hval 0 2 v0 rfl rfl) h0
  obtain ⟨a1, rfl, rfl, rfl, w1⟩ := open_int Yba.underlying2 (hval 1 2 v1 rfl rfl) h1
  clear hA0 hval0
  simp only [List.append_nil] at hW'
  refine (walk a0 a1 w0 w1 W).mono fun e W' ⟨he, hg⟩ => ?_
  subst he
  exact ⟨_, rfl, post_of_same (pa := []) (pv := []) hW' (fun _ _ _ => (trodAll_cons_mk (shut_bool Yba.underlying4 _) trodAll_mk0)) (fun sp _ => (trodAll_cons_mk (shut_int Yba.underlying2 w0) (trodAll_cons_mk (shut_int Yba.underlying2 w1) trodAll_mk0))) (fun _ _ => rfl) rfl
    (hg.frame _) hg.2.1 (ok_one (by kernel_rfl) rfl (okWide_bool_mk Yba.underlying4 _))⟩

theorem over : Rows.lawS2708BExactRow.holds Yba.pinned (OpenSpec.ofChange Rows.lawS2708BExactSpec) :=
  OpenClaim.holds_of_wide 6 Yba.f6 rfl rfl rfl rfl rfl rfl rfl ⟨rfl, rfl, rfl, rfl, rfl⟩ rfl rfl rfl rfl rfl (by kernel_rfl) Yba.func6 (by kernel_rfl)
    (of_decide_eq_true (by kernel_rfl)) (by unfold Func.isWrapper; first | (rw [if_pos (by decide +kernel)]; kernel_rfl) | (rw [if_neg (by decide +kernel)]; exact ⟨rfl, rfl⟩))
    (fun os started H enc _ => lifted os started H enc)

/-- ████ THE STATEMENT ████ -/
theorem proved : Rows.LawS2708BExactSaid :=
  over
#print axioms proved
end Go.Proofs.Ybulkbdbe.lawS2708BExact
