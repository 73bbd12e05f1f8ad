/- The proof of 'Rows.LawS2708BRowSaid': the frame is the guide's own; the walk is ours. -/
import Derived.Test.YbulkbdbeRow
import Derived.WalkKit
import Derived.ProofKit
import Derived.OpenShut
import Derived.ChangeOld
import Derived.Below
import Derived.Deep.SlicePairs
namespace Go.Proofs.Ybulkbdbe.lawS2708BRow
open Go.ChangeShapes Go.WideShapes Go.ChangeAt Go.RowKit
set_option linter.unusedVariables false

theorem own : ownKnob Yba.prog.godebug = none := by kernel_rfl
theorem laidOut : laidOutB Yba.prog = true := by kernel_rfl

set_option maxHeartbeats 1000000 in
theorem row_nil (c : Nat) (w : World) : Calls Yba.prog 5 #[.slice none 0 c] w fun e w' => e = .returned (.bool true) ∧ Below w.heap.size w w' := by
  have h0 : Sr w w.heap.size 0 (w.alloc (.cells #[.int .u64 0] 39)) := ⟨by go_simp, by go_simp, (Below.refl _ _).alloc (Nat.le_refl _) _, Nat.le_refl _⟩
  have HR0 : Hid (Calls Yba.prog 10 #[.pointer (some ⟨w.heap.size, 0, none⟩)] (w.alloc (.cells #[.int .u64 0] 39)) fun e w' => e = .returned (.tuple #[]) ∧ Sr w w.heap.size 18442240474082181120 w') :=
    (reset_any w.heap.size 0 _ h0.cell h0.froz).mono fun e w' ⟨he, hw⟩ => ⟨he, by rw [hw]; exact h0.set _⟩
  clear h0
  go_enter Yba.func5, Yba.ntmps5
  go_wp2_with fail
  refine HR0.out.mono ?_
  rintro e w1 ⟨rfl, h1⟩
  have HB : Hid (Below w.heap.size w w1) := h1.below
  clear h1 HR0
  go_wp2_with fail
  refine wp_loop_rounds 1 ?_
  rw [rounds_succ]
  go_wp2
  go_ret
  exact ⟨rfl, HB.out⟩

set_option maxHeartbeats 1000000 in
theorem row_long (p : Option Addr) (n c : Nat) (w : World) (h : 1024 < n) : Calls Yba.prog 5 #[.slice p n c] w fun e w' => e = .returned (.bool true) ∧ Below w.heap.size w w' := by
  have h' : (1024 : Int) < n := by omega
  go_enter Yba.func5, Yba.ntmps5
  go_wp2
  go_ret
  exact ⟨rfl, Below.refl _ _⟩

theorem walk (p : Option Addr) (n c : Nat) (w : World) (h : (p = none ∧ n = 0) ∨ ∃ a, p = some a ∧ Steps w a n) : Calls Yba.prog 5 #[.slice p n c] w fun e w' => e = .returned (.bool true) ∧ Below w.heap.size w w' := by
  by_cases hl : 1024 < n
  · exact row_long p n c w hl
  · rcases h with ⟨rfl, rfl⟩ | ⟨a, rfl, hS⟩
    · exact row_nil c w
    · exact row_any a n c w (by omega) hS

set_option maxRecDepth 100000 in
theorem lifted (os : Os) (started : os.Started) (H : Type) (enc : TypeId × Value → H) :
    ReturnsInHanded {} Yba.checked os 5 .any (Rows.lawS2708BRowSpec.pre6 enc Yba.prog Yba.f5 Rows.lawS2708BRowRow.domain false) (Rows.lawS2708BRowSpec.post enc Yba.prog Yba.f5 false true false false) := by
  refine returnsInHanded_of_change (C := Yba.checked) own started (by kernel_rfl) Yba.func5
    (ChangeSpec.witness6 (enc := enc) (C := Yba.checked) false ⟨#[], #[.slice none 0 0], []⟩ 8 (by kernel_rfl) (by kernel_rfl) (by kernel_rfl) (by kernel_rfl)) ?_
  intro W base args ds gs before hval0 hW hcnd _
  have hval : ∀ (j : Nat) t v, Yba.f5.params[j]? = some t → args[j]? = some v → Value.okWide Yba.prog W .any base t v := hval0
  have hW' := hW
  obtain ⟨p, q, hA0, hV, rfl, hfz, hnd⟩ := hW
  have hA : DataW.TrodAll enc Yba.prog W 0 (fun _ => true) true Yba.f5.params.toList args.toList ds p := hA0
  rw [Yba.params5] at hA hval
  obtain ⟨v0, vs0, d0, ds0, p0, q0, hargs, rfl, rfl, h0, r0⟩ := trodAll_cons hA
  obtain ⟨rfl, rfl, rfl⟩ := trodAll_nil r0
  obtain rfl : args = #[v0] := by cases args; simp_all
  obtain ⟨rfl, rfl⟩ := trodVars_none hV
  obtain ⟨a0, len0, cap0, rfl⟩ := okWide_slice Yba.underlying29 (hval 0 29 v0 rfl rfl)
  have k0 := h0
  have lt0 : ∀ x ∈ p0, x.block < W.heap.size := by obtain ⟨m, hm⟩ := k0; exact DataW.trod_lt m _ _ _ hm
  have w0 : (a0 = none ∧ len0 = 0) ∨ ∃ a, a0 = some a ∧ Steps W a len0 := by
    obtain ⟨fuel, hf⟩ := h0
    rcases Go.Deep.open_slice_pairs Yba.underlying29 Yba.underlying41 (by kernel_rfl) rfl rfl (by kernel_rfl) (by kernel_rfl) hf with ⟨hcs, _⟩ | ⟨x, l, c, m, n, V0, V1, D0, D1, P0, P1, hcs, _, hl, hm, hmm, _, hx⟩
    · simp [Value.cells] at hcs
      obtain ⟨rfl, rfl, rfl⟩ := hcs
      exact .inl ⟨rfl, rfl⟩
    · simp [Value.cells] at hcs
      obtain ⟨rfl, rfl, rfl⟩ := hcs
      refine .inr ⟨_, rfl, fun i hi => ?_⟩
      have him : i < m := by rw [hmm]; split <;> omega
      obtain ⟨c1, c2, t1, t2⟩ := hx i him
      obtain ⟨o, e1, _, wf1⟩ := DataW.trod_int Yba.underlying5 t1
      obtain ⟨z, e2, _, wf2⟩ := DataW.trod_int Yba.underlying2 t2
      simp at e1 e2
      obtain ⟨o1, o2⟩ := bounds_u8 wf1
      obtain ⟨z1, z2⟩ := bounds_i64 wf2
      exact ⟨o, z, by rw [c1, e1], by omega, by omega, by rw [c2, e2], by omega, by omega⟩
  clear hA0 hval0
  refine (walk a0 len0 cap0 W w0).mono fun e W' ⟨he, bel⟩ => ?_
  subst he
  exact ⟨_, rfl, _, _, _, [], _, [], hW', trodAll_mk1 (shut_bool Yba.underlying4 _), (trodAll_cons_mk (Below.trod laidOut (by kernel_rfl) (of_decide_eq_true (by kernel_rfl)) k0 bel lt0) trodAll_mk0), rfl, bel.frame _, fun h => by cases h⟩

theorem over : Rows.lawS2708BRowRow.holds Yba.pinned (OpenSpec.ofChange Rows.lawS2708BRowSpec) :=
  OpenClaim.holds_of_wide 5 Yba.f5 rfl rfl rfl rfl rfl rfl rfl ⟨rfl, rfl, rfl, rfl, rfl⟩ rfl rfl rfl rfl rfl (by kernel_rfl) Yba.func5 (by kernel_rfl)
    (of_decide_eq_true (by kernel_rfl)) (by unfold Func.isWrapper; first | (rw [if_pos (by decide +kernel)]; kernel_rfl) | (rw [if_neg (by decide +kernel)]; exact ⟨rfl, rfl⟩))
    (fun os started H enc _ => lifted os started H enc)

/-- THE STATEMENT -/
theorem proved : Rows.LawS2708BRowSaid := over
#print axioms proved
end Go.Proofs.Ybulkbdbe.lawS2708BRow
