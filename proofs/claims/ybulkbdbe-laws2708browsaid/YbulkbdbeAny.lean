import Derived.Test.YbulkbdbeLog2
import Derived.Test.YbulkbdbeSt
namespace Go.Proofs.Ybulkbdbe
open Go.RowKit Flt Ieee

/-- a function of floats that only reckons, its answer known to be of a kind -/
def GivesIn (f : Nat) (args : Array Value) (Q : Nat → Prop) : Prop := ∀ w : World, Calls Yba.prog f args w fun e w' => (∃ v, e = .returned (.float .f64 v) ∧ Q v) ∧ w' = w

/-- the rank of an open row: finite, or +Inf -/
def Ok (r : Nat) : Prop := Bd r 5012506385263362048 ∨ r = 9218868437227405312

/-- now / halfLife -/
theorem now_bd (now : Int) (h1 : -9223372036854775808 ≤ now) (h2 : now ≤ 9223372036854775807) : ∃ x, double.div (floatOfInt .f64 now) 4741671816366391296 = some x ∧ Bd x 5008002785635991552 := by
  obtain ⟨a, b⟩ := int_fin now h1 h2
  obtain ⟨y, e, f, g⟩ := div_giga (x := floatOfInt .f64 now) a b
  exact ⟨y, e, f, g⟩

set_option maxHeartbeats 400000 in
theorem valueAt_in (r : Nat) (now : Int) (h1 : -9223372036854775808 ≤ now) (h2 : now ≤ 9223372036854775807) (hr : Ok r ∨ r = 18442240474082181120) : GivesIn 29 #[.float .f64 r, .int .i64 now] (· ≤ 9218868437227405312) := by
  intro w
  obtain ⟨x, ex, hx⟩ := now_bd now h1 h2
  have hd : ∃ d, double.sub r x = some d ∧ GivesIn 41 #[.float .f64 d] (· ≤ 9218868437227405312) := by
    rcases hr with (hr | rfl) | rfl
    · obtain ⟨d, ed, hd⟩ := sub_bd 5017009984890732544 hr hx (by decide) (by decide +kernel)
      exact ⟨d, ed, fun w => exp2_fin d hd.fin w⟩
    · exact ⟨_, inf_sub' hx.fin, fun w => exp2_inf w⟩
    · exact ⟨_, inf_sub hx.fin, fun w => (exp2_neginf w).mono fun e w' ⟨he, hw⟩ => ⟨⟨0, he, by decide⟩, hw⟩⟩
  obtain ⟨d, ed, hE⟩ := hd
  have HE : Hid (GivesIn 41 #[.float .f64 d] (· ≤ 9218868437227405312)) := hE
  have q1 := fdiv ex
  have q2 := fsub ed
  clear ex ed hE hx hr
  go_enter Yba.func29, Yba.ntmps29
  go_wp2_with (go_at_call 41; refine (HE.out _).mono ?_; rintro e w' ⟨⟨v, rfl, hv⟩, rfl⟩)
  go_ret
  exact ⟨⟨v, rfl, hv⟩, rfl⟩

set_option maxHeartbeats 400000 in
theorem succ_in (n : Nat) (hn : n ≤ 9218868437227405312) : GivesIn 25 #[.float .f64 n] (fun v => 4607182418800017408 ≤ v ∧ v ≤ 9218868437227405312) := by
  intro w
  obtain ⟨v, e, h1, h2⟩ : ∃ v, double.add n 4607182418800017408 = some v ∧ 4607182418800017408 ≤ v ∧ v ≤ 9218868437227405312 := by
    by_cases h : n = 9218868437227405312
    · subst h
      exact ⟨_, inf_add fin_one, by decide, by decide⟩
    · have f : Flt.Fin n := fin_pos (by omega)
      exact add_one' f (by unfold sgn; simp; omega)
  have q2 := fadd e
  clear e
  go_enter Yba.func25, Yba.ntmps25
  go_wp2
  go_ret
  exact ⟨⟨v, rfl, h1, h2⟩, rfl⟩

set_option maxHeartbeats 400000 in
theorem rankOf_in (v : Nat) (now : Int) (h1 : -9223372036854775808 ≤ now) (h2 : now ≤ 9223372036854775807) (hv1 : 4607182418800017408 ≤ v) (hv2 : v ≤ 9218868437227405312) : GivesIn 40 #[.float .f64 v, .int .i64 now] Ok := by
  intro w
  obtain ⟨x, ex, hx⟩ := now_bd now h1 h2
  have q1 := fdiv ex
  clear ex
  by_cases h : v = 9218868437227405312
  · subst h
    have q2 := fadd (inf_add hx.fin)
    clear hx
    go_enter Yba.func40, Yba.ntmps40
    go_wp2_with (go_at_call 48; refine (log2_inf _).mono ?_; rintro e w' ⟨rfl, rfl⟩)
    go_ret
    exact ⟨⟨_, rfl, .inr rfl⟩, rfl⟩
  · have HL : Hid (∀ w, Calls Yba.prog 48 #[.float .f64 v] w fun e w' => (∃ y, e = .returned (.float .f64 y) ∧ Bd y 4661225614328463360) ∧ w' = w) := fun w => log2_fin v hv1 (by omega) w
    have HX : Hid (Bd x 5008002785635991552) := hx
    clear hx h hv1 hv2
    go_enter Yba.func40, Yba.ntmps40
    go_wp2_with fail
    refine (HL.out _).mono ?_
    rintro e w' ⟨⟨y, rfl, hy⟩, rfl⟩
    obtain ⟨z, ez, hz⟩ := add_bd 5012506385263362048 hy HX.out (by decide) (by decide +kernel)
    have q2 := fadd ez
    clear ez hy
    go_wp2
    go_ret
    exact ⟨⟨z, rfl, .inl hz⟩, rfl⟩

theorem Ok.lt {r : Nat} (h : Ok r) : r < 18446744073709551616 := by
  rcases h with h | rfl
  · exact h.fin.lt
  · decide

set_option maxHeartbeats 800000 in
theorem update_in (b r : Nat) (now : Int) (w : World) (h1 : -9223372036854775808 ≤ now) (h2 : now ≤ 9223372036854775807) (hr : Ok r ∨ r = 18442240474082181120) (hc : w.cell? ⟨b, 0, none⟩ = some (.int .u64 r)) (hz : w.frozen? ⟨b, 0, none⟩ = false) :
    Calls Yba.prog 24 #[.pointer (some ⟨b, 0, none⟩), .int .i64 now, .func (.func 25) #[] #[]] w fun e w' => e = .returned (.tuple #[]) ∧ ∃ y, Ok y ∧ w' = (w.setCell ⟨b, 0, none⟩ (.int .u64 y)).drew := by
  have hb := run_bits
  have hf := run_frombits
  have hc' : w.drew.cell? ⟨b, 0, none⟩ = some (.int .u64 r) := hc
  have hz' : w.drew.frozen? ⟨b, 0, none⟩ = false := hz
  have HV : Hid (GivesIn 29 #[.float .f64 r, .int .i64 now] (· ≤ 9218868437227405312)) := valueAt_in r now h1 h2 hr
  have HS : Hid (∀ n, n ≤ 9218868437227405312 → GivesIn 25 #[.float .f64 n] (fun v => 4607182418800017408 ≤ v ∧ v ≤ 9218868437227405312)) := fun n hn => succ_in n hn
  have HR : Hid (∀ v, 4607182418800017408 ≤ v → v ≤ 9218868437227405312 → GivesIn 40 #[.float .f64 v, .int .i64 now] Ok) := fun v a b => rankOf_in v now h1 h2 a b
  clear hr h1 h2
  go_enter Yba.func24, Yba.ntmps24
  go_wp2
  refine wp_loop_rounds 1 ?_
  rw [rounds_succ]
  go_wp2_with (first | (go_at_call 16; refine (load_any b r _ hc).mono ?_; rintro e w' ⟨rfl, rfl⟩) | (go_at_call 29; refine (HV.out _).mono ?_; rintro e w' ⟨⟨n, rfl, hn⟩, rfl⟩) | (go_at_call 25; refine (HS.out _ (by assumption) _).mono ?_; rintro e w' ⟨⟨v, rfl, hv1, hv2⟩, rfl⟩))
  go_region_with (first | (go_at_call 40; refine (HR.out _ (by assumption) (by assumption) _).mono ?_; rintro e w' ⟨⟨y, rfl, hy⟩, rfl⟩) | (go_at_call 39; refine (cas_any b r _ _ hc' hz').mono ?_; rintro e w' ⟨rfl, rfl⟩))
  all_goals go_wp2
  all_goals (first | go_end0 | refine bodyPost_ret (results_none rfl _ _ _) rfl ?_)
  all_goals exact ⟨rfl, _, hy, rfl⟩

set_option maxHeartbeats 800000 in
theorem failed_in (b r : Nat) (now : Int) (w : World) (h1 : -9223372036854775808 ≤ now) (h2 : now ≤ 9223372036854775807) (hr : Ok r ∨ r = 18442240474082181120) (hc : w.cell? ⟨b, 0, none⟩ = some (.int .u64 r)) (hz : w.frozen? ⟨b, 0, none⟩ = false) :
    Calls Yba.prog 11 #[.pointer (some ⟨b, 0, none⟩), .int .i64 now, .string ⟨#[102, 97, 105, 108, 101, 100]⟩] w fun e w' => e = .returned (.tuple #[]) ∧ ∃ y, Ok y ∧ w' = (w.setCell ⟨b, 0, none⟩ (.int .u64 y)).drew := by
  have HU : Hid (Calls Yba.prog 24 #[.pointer (some ⟨b, 0, none⟩), .int .i64 now, .func (.func 25) #[] #[]] w fun e w' => e = .returned (.tuple #[]) ∧ ∃ y, Ok y ∧ w' = (w.setCell ⟨b, 0, none⟩ (.int .u64 y)).drew) := update_in b r now w h1 h2 hr hc hz
  clear h1 h2 hr hc hz
  go_enter Yba.func11, Yba.ntmps11
  go_wp2_with (go_at_call 24; refine HU.out.mono ?_; rintro e w' ⟨rfl, y, hy, rfl⟩)
  all_goals (first | go_end0 | refine bodyPost_ret (results_none rfl _ _ _) rfl ?_)
  all_goals exact ⟨rfl, y, hy, rfl⟩

theorem ok_open {r : Nat} (h : Ok r) : negInfB r = false := by
  rcases h with h | rfl
  · unfold negInfB
    have fn := (neg_word h.fin).1
    rw [ord_gt fn (fin_c 9218868437227405311 (by decide)), S_pos (by decide)]
    have ha := S_abs (Op.negFloat .f64 r)
    have := V_mono (show rung (Op.negFloat .f64 r) ≤ 9218868437227405311 by have := fn.fin; unfold rung; omega)
    apply decide_eq_false
    generalize V 9218868437227405311 = vm at *
    generalize V (rung (Op.negFloat .f64 r)) = vv at *
    omega
  · decide +kernel

theorem shut_neg : negInfB 18442240474082181120 = true := by decide +kernel

end Go.Proofs.Ybulkbdbe
