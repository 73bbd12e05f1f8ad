/- The proof of 'Rows.LawS2715CModelSaid': the frame is the guide's own; the walk is ours. -/
import Derived.Test.YbulkbdeyLaw
import Derived.WalkKit
import Derived.ProofKit
import Derived.OpenShut
import Derived.ShutString
import Derived.ChangeOld
import Derived.Below
namespace Go.Proofs.Ybulkbdey.lawS2715CModel
open Go.ChangeShapes Go.WideShapes Go.ChangeAt Go.RowKit
open Go.ChangeMaps (open_string shut_string)
set_option linter.unusedVariables false

theorem own : ownKnob Yba.prog.godebug = none := by kernel_rfl
theorem laidOut : laidOutB Yba.prog = true := by kernel_rfl

/-- WHAT THE WALK IS TOLD OF A SLICE OF INTEGERS THAT CAME IN: it is nil; or it leads to a row of 'cap' cells, the numbers 'zs' (the first 'len' are its elements, the rest its spare room), each fitting its kind. -/
def IsRow (k : IntKind) (w : World) (a : Option Addr) (len cap : Nat) (zs : List Int) : Prop :=
  (a = none ∧ len = 0 ∧ cap = 0 ∧ zs = []) ∨
  ∃ x, a = some x ∧ len ≤ cap ∧ cap ≤ maxLen ∧ zs.length = cap ∧ (∀ i, i < zs.length → w.cell? (x.add i) = some (.int k (zs.getD i 0))) ∧ ∀ n ∈ zs, (Lit.int k n).wf = true

/-! ### STEP 1: THE WALK -/
set_option maxHeartbeats 400000 in
theorem walk (a0 : Option Addr) (len0 cap0 : Nat) (z0 : List Int) (a1 : Int) (a2 : Int) (a3 : Int) (w : World) (w0 : IsRow .u8 w a0 len0 cap0 z0) (w1 : (Lit.int .u16 a1).wf = true) (w2 : (Lit.int .u16 a2).wf = true) (w3 : (Lit.int .u64 a3).wf = true) :
    Calls Yba.prog 3 #[.slice a0 len0 cap0, .int .u16 a1, .int .u16 a2, .int .u64 a3] w fun e w' => e = .returned (.bool true) ∧ Below w.heap.size w w' := by
  by_cases hl : len0 ≤ 1024
  · obtain ⟨b1, b1'⟩ := bounds_u16 w1
    obtain ⟨b2, b2'⟩ := bounds_u16 w2
    obtain ⟨b3, b3'⟩ := bounds_u64 w3
    obtain ⟨s, rfl⟩ := Int.eq_ofNat_of_zero_le b1
    obtain ⟨nn, rfl⟩ := Int.eq_ofNat_of_zero_le b2
    obtain ⟨fl, rfl⟩ := Int.eq_ofNat_of_zero_le b3
    obtain ⟨bs, hbl, hbf, hbz⟩ : ∃ bs : List Nat, bs.length = len0 ∧ (∀ i, bs.getD i 0 < 256) ∧ ∀ i, i < len0 → ((bs.getD i 0 : Nat) : Int) = z0.getD i 0 := by
      rcases w0 with ⟨_, h0, _, h0'⟩ | ⟨x, _, hlc, hcm, hzl, hcell, hwf⟩
      · exact ⟨[], by rw [h0]; rfl, fun i => by simp, fun i hi => by omega⟩
      · refine ⟨(z0.take len0).map Int.toNat, by simp; omega, fun i => ?_, fun i hi => ?_⟩
        · rw [List.getD_eq_getElem?_getD, List.getElem?_map]
          cases hq : (z0.take len0)[i]? with
          | none => simp
          | some z =>
            have := bounds_u8 (hwf z (List.mem_of_mem_take (List.mem_of_getElem? hq)))
            simp
            omega
        · have hi2 : i < z0.length := by omega
          have hm : z0[i]? = some z0[i] := List.getElem?_eq_getElem hi2
          have := bounds_u8 (hwf z0[i] (List.getElem_mem _))
          rw [List.getD_eq_getElem?_getD, List.getElem?_map, List.getElem?_take, if_pos hi, hm, List.getD_eq_getElem?_getD, hm]
          simp
          omega
    subst hbl
    refine law_any bs a0 cap0 s nn fl w ⟨hl, hbf⟩ (by omega) (by omega) (by omega) ?_
    intro i hi
    rcases w0 with ⟨_, h0, _, _⟩ | ⟨x, rfl, hlc, hcm, hzl, hcell, hwf⟩
    · omega
    · have hc0 := hcell 0 (by omega)
      refine ⟨x, rfl, ?_, fun j hj => ?_⟩
      · have := block_lt hc0
        simpa [Addr.add] using this
      · rw [hcell j (by omega), hbz j hj]
  · exact law_long a0 len0 cap0 a1 a2 a3 w (by omega)

/-! ### THE ROW's STEP: WRITTEN OUT: LEAVE IT -/
set_option maxRecDepth 100000 in
theorem lifted (os : Os) (started : os.Started) (H : Type) (enc : TypeId × Value → H) :
    ReturnsInHanded {} Yba.checked os 3 .any (Rows.lawS2715CModelSpec.pre6 enc Yba.prog Yba.f3 Rows.lawS2715CModelRow.domain false) (Rows.lawS2715CModelSpec.post enc Yba.prog Yba.f3 false true false false) := by
  refine returnsInHanded_of_change (C := Yba.checked) own started (by kernel_rfl) Yba.func3
    (ChangeSpec.witness6 (enc := enc) (C := Yba.checked) false ⟨#[], #[.slice none 0 0, .int .u16 0, .int .u16 0, .int .u64 0], []⟩ 8 (by kernel_rfl) (by kernel_rfl) (by kernel_rfl) (by kernel_rfl)) ?_
  intro W base args ds gs before hval0 hW hcnd _
  have hval : ∀ (j : Nat) t v, Yba.f3.params[j]? = some t → args[j]? = some v → Value.okWide Yba.prog W .any base t v := hval0
  have hW' := hW
  obtain ⟨p, q, hA0, hV, rfl, hfz, hnd⟩ := hW
  have hA : DataW.TrodAll enc Yba.prog W 0 (fun _ => true) true Yba.f3.params.toList args.toList ds p := hA0
  rw [Yba.params3] at hA hval
  obtain ⟨v0, vs0, d0, ds0, p0, q0, hargs, rfl, rfl, h0, r0⟩ := trodAll_cons hA
  obtain ⟨v1, vs1, d1, ds1, p1, q1, rfl, rfl, rfl, h1, r1⟩ := trodAll_cons r0
  obtain ⟨v2, vs2, d2, ds2, p2, q2, rfl, rfl, rfl, h2, r2⟩ := trodAll_cons r1
  obtain ⟨v3, vs3, d3, ds3, p3, q3, rfl, rfl, rfl, h3, r3⟩ := trodAll_cons r2
  obtain ⟨rfl, rfl, rfl⟩ := trodAll_nil r3
  obtain rfl : args = #[v0, v1, v2, v3] := by cases args; simp_all
  obtain ⟨rfl, rfl⟩ := trodVars_none hV
  obtain ⟨a0, len0, cap0, rfl⟩ := okWide_slice Yba.underlying22 (hval 0 22 v0 rfl rfl)
  have k0 := h0
  have lt0 : ∀ x ∈ p0, x.block < W.heap.size := by obtain ⟨m, hm⟩ := k0; exact DataW.trod_lt m _ _ _ hm
  obtain ⟨z0, w0⟩ : ∃ zs, IsRow .u8 W a0 len0 cap0 zs := by
    obtain ⟨fuel, hf⟩ := h0
    rcases open_ints Yba.underlying22 Yba.underlying5 (by kernel_rfl) hf with ⟨hcs, _⟩ | ⟨x, l, c, zs, hcs, _, hl, hm, hz, _, hcell, hwz⟩
    · simp [Value.cells] at hcs
      obtain ⟨rfl, rfl, rfl⟩ := hcs
      exact ⟨[], .inl ⟨rfl, rfl, rfl, rfl⟩⟩
    · simp [Value.cells] at hcs
      obtain ⟨rfl, rfl, rfl⟩ := hcs
      exact ⟨zs, .inr ⟨_, rfl, hl, hm, by simpa using hz, hcell, hwz⟩⟩
  obtain ⟨a1, rfl, rfl, rfl, w1⟩ := open_int Yba.underlying23 (hval 1 23 v1 rfl rfl) h1
  obtain ⟨a2, rfl, rfl, rfl, w2⟩ := open_int Yba.underlying23 (hval 2 23 v2 rfl rfl) h2
  obtain ⟨a3, rfl, rfl, rfl, w3⟩ := open_int Yba.underlying24 (hval 3 24 v3 rfl rfl) h3
  clear hA0 hval0
  refine (walk a0 len0 cap0 z0 a1 a2 a3 W w0 w1 w2 w3).mono fun e W' ⟨he, bel⟩ => ?_
  subst he
  exact ⟨_, rfl, _, _, _, [], _, [], hW', trodAll_mk1 (shut_bool Yba.underlying4 _), (trodAll_cons_mk (Below.trod laidOut (by kernel_rfl) (of_decide_eq_true (by kernel_rfl)) k0 bel lt0) (trodAll_cons_mk (shut_int Yba.underlying23 w1) (trodAll_cons_mk (shut_int Yba.underlying23 w2) (trodAll_cons_mk (shut_int Yba.underlying24 w3) trodAll_mk0)))), rfl, bel.frame _, fun h => by cases h⟩

theorem over : Rows.lawS2715CModelRow.holds Yba.pinned (OpenSpec.ofChange Rows.lawS2715CModelSpec) :=
  OpenClaim.holds_of_wide 3 Yba.f3 rfl rfl rfl rfl rfl rfl rfl ⟨rfl, rfl, rfl, rfl, rfl⟩ rfl rfl rfl rfl rfl (by kernel_rfl) Yba.func3 (by kernel_rfl)
    (of_decide_eq_true (by kernel_rfl)) (by unfold Func.isWrapper; first | (rw [if_pos (by decide +kernel)]; kernel_rfl) | (rw [if_neg (by decide +kernel)]; exact ⟨rfl, rfl⟩))
    (fun os started H enc _ => lifted os started H enc)

/-- ████ THE STATEMENT ████ -/
theorem proved : Rows.LawS2715CModelSaid := over
#print axioms proved
end Go.Proofs.Ybulkbdey.lawS2715CModel
