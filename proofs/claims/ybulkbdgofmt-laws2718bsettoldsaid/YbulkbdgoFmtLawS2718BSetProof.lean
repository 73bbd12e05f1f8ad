import Derived.Test.YbulkbdgoFmtPut
import Derived.Test.YbulkbdgoFmtLaidSet
import Derived.Test.YbulkbdgoFmtTie
import Derived.Test.YbulkbdgoFmtCards
import Derived.ProofKit
import Derived.OpenShut
import Derived.ShutString
import Derived.ChangeOld
import Derived.Below
import Derived.Stop.JoinedAt
import Derived.Stop.JoinedTold
import Derived.Stop.LaidErr
import Derived.Deep.DeepWitnessRef
import Derived.SevenTiedAt
namespace Go.Proofs.YbulkbdgoFmt.lawS2718BSet
open Go.ChangeShapes Go.WideShapes Go.ChangeAt Go.RowKit
open Go.ChangeMaps (open_string shut_string)
open Go.Extern.Stop Go.Stop Go.Extern
set_option linter.unusedVariables false

theorem own : ownKnob Ybaf.prog.godebug = none := by kernel_rfl
theorem laidOut : laidOutB Ybaf.prog = true := by kernel_rfl
theorem row65 {nm : String} (hnm : Ybaf.prog.typeName? 3 65 = some nm) (u : TypeId) (h : Ybaf.prog.typeName? 3 u = some nm) : u = 65 :=
  typeName_ptr_named (nm := "errors.errorString") (by kernel_rfl) (by kernel_rfl) (by decide) u (by rw [h, ← hnm]; kernel_rfl)

theorem cell_of_var {P : Program} {W : World} {n : String} {x : Value} (hv : W.var? P n = some #[x]) (hg : P.globalNamed n = some 0) : W.cell? ⟨0, 0, none⟩ = some x := by
  unfold World.var? at hv
  rw [hg] at hv
  simp only [Option.bind_some] at hv
  split at hv
  · rename_i cs t fr hh
    cases hv
    simp [World.cell?, hh]
  · cases hv

/-- how a slice of bytes that came in lies -/
theorem bs_of {w : World} {a : Option Addr} {len cap : Nat} {zs' : List Int} (h : (a = none ∧ len = 0 ∧ cap = 0) ∨ ∃ x, a = some x ∧ len ≤ cap ∧ zs'.length = cap ∧ (∀ i, i < zs'.length → w.cell? (x.add i) = some (.int .u8 (zs'.getD i 0))) ∧ ∀ n ∈ zs', (Lit.int .u8 n).wf = true) :
    ∃ l : List UInt8, l.length = len ∧ Bs w (.slice a len cap) l := by
  rcases h with ⟨rfl, rfl, rfl⟩ | ⟨x, rfl, hlc, hz, hc, hwf⟩
  · exact ⟨[], rfl, none, 0, rfl, Lib.BytesIn.nil _ _ _⟩
  · have hl : ((zs'.take len).map fun n => UInt8.ofNat n.toNat).length = len := by simp; omega
    refine ⟨(zs'.take len).map fun n => UInt8.ofNat n.toNat, hl, some x, cap, by rw [hl], ?_⟩
    rw [hl]
    refine Lib.BytesIn.of_cells fun i hi => ?_
    rw [hc i (by omega)]
    have hb := bounds_u8 (hwf _ (show zs'.getD i 0 ∈ zs' by rw [List.getD_eq_getElem?_getD, List.getElem?_eq_getElem (by omega)]; exact List.getElem_mem _))
    congr 2
    have e : zs'.getD i 0 = zs'[i]'(by omega) := by simp [List.getD, show i < zs'.length by omega]
    rw [e] at hb ⊢
    simp [zs, List.getD, hi, show i < zs'.length by omega]
    omega

theorem long (sel : Int) (nm s : ByteArray) (po : Option Addr) (no co : Nat) (lim : Int) (w : World) (h : 1024 < s.size ∨ 512 < no) :
    Calls Ybaf.prog 3 #[.int .u8 sel, .string nm, .string s, .int .i64 lim, .slice po no co] w fun e w' => e = .returned (.bool true) ∧ Below w.heap.size w w' := by
  by_cases h1 : 1024 < s.size
  · have h1' : (1024 : Int) < s.size := by omega
    go_enter Ybaf.func3, Ybaf.ntmps3
    go_wp2
    go_ret
    exact ⟨rfl, Below.refl _ _⟩
  · have h1' : (s.size : Int) ≤ 1024 := by omega
    have h2' : (512 : Int) < no := by omega
    go_enter Ybaf.func3, Ybaf.ntmps3
    go_wp2
    go_ret
    exact ⟨rfl, Below.refl _ _⟩

theorem walk (a0 : Int) (s1 s2 : ByteArray) (a3 : Int) (p4 : Option Addr) (n4 c4 : Nat) (te : TypeId) (ve : Value) (W : World) (l4 : List UInt8) (w0 : (Lit.int .u8 a0).wf = true)
    (e4 : l4.length = n4) (h4 : Bs W (.slice p4 n4 c4) l4) (hE : W.cell? ⟨0, 0, none⟩ = some (.iface te ve)) :
    Calls Ybaf.prog 3 #[.int .u8 a0, .string s1, .string s2, .int .i64 a3, .slice p4 n4 c4] W fun e w' => e = .returned (.bool true) ∧ Below W.heap.size W w' := by
  obtain ⟨x0, x1⟩ := bounds_u8 w0
  obtain ⟨n, rfl⟩ := Int.eq_ofNat_of_zero_le x0
  by_cases h : 1024 < s2.size ∨ 512 < n4
  · exact long _ s1 s2 p4 n4 c4 a3 W h
  · exact put_any n (by omega) s1 s2 _ l4 a3 te ve W (by omega) (by omega) h4 hE

set_option maxRecDepth 100000 in
set_option maxHeartbeats 1000000 in
theorem lifted (os : Os) (started : os.Started) (H : Type) (enc : TypeId × Value → H) :
    ReturnsInTold none {} Ybaf.checked os 3 .any Input.okWide ((OpenSpec.ofChange Rows.lawS2718BSetSpec).preRow enc Ybaf.prog Ybaf.f3 Rows.lawS2718BSetRow.domain false Rows.lawS2718BSetRow.laid)
      (fun F => ((OpenSpec.ofChange Rows.lawS2718BSetSpec).at F).post enc Ybaf.prog Ybaf.f3 false true false false) (aloneAtReturn Ybaf.prog) nothingAlways := by
  refine returnsInTold_of_row (C := Ybaf.checked) (s := OpenSpec.ofChange Rows.lawS2718BSetSpec) (by kernel_rfl) own started (by kernel_rfl) Ybaf.func3
    (OpenSpec.witness_stopped_atRef (enc := enc) (C := Ybaf.checked) false (laidOf Ybaf.prog os) wArgs rfl (by kernel_rfl) (by kernel_rfl) (by kernel_rfl) (witness_put os enc)) ?_
  intro F W base args ds gs before _ hF hval0 hW hcnd0 _ _ hL _
  have hval : ∀ (j : Nat) t v, Ybaf.f3.params[j]? = some t → args[j]? = some v → Value.okWide Ybaf.prog W .any base t v := hval0
  have hW' := hW
  obtain ⟨p, q, hA0, hV, rfl, hfz, hnd⟩ := hW
  have hA : DataW.TrodAll enc Ybaf.prog W 0 (fun _ => true) true Ybaf.f3.params.toList args.toList ds p := hA0
  rw [Ybaf.params3] at hA hval
  obtain ⟨v0, vs0, d0, ds0, p0, q0, hargs, rfl, rfl, h0, r0⟩ := trodAll_cons hA
  obtain ⟨v1, vs1, d1, ds1, p1, q1, rfl, rfl, rfl, h1, r1⟩ := trodAll_cons r0
  obtain ⟨v2, vs2, d2, ds2, p2, q2, rfl, rfl, rfl, h2, r2⟩ := trodAll_cons r1
  obtain ⟨v3, vs3, d3, ds3, p3, q3, rfl, rfl, rfl, h3, r3⟩ := trodAll_cons r2
  obtain ⟨v4, vs4, d4, ds4, p4, q4, rfl, rfl, rfl, h4, r4⟩ := trodAll_cons r3
  obtain ⟨rfl, rfl, rfl⟩ := trodAll_nil r4
  obtain rfl : args = #[v0, v1, v2, v3, v4] := by cases args; simp_all
  obtain ⟨rfl, rfl⟩ := trodVars_none hV
  obtain ⟨a0, rfl, rfl, rfl, w0⟩ := open_int Ybaf.underlying5 (hval 0 5 v0 rfl rfl) h0
  obtain ⟨s1, rfl, rfl, rfl, z1⟩ := open_string Ybaf.underlying9 (hval 1 9 v1 rfl rfl) h1
  obtain ⟨s2, rfl, rfl, rfl, z2⟩ := open_string Ybaf.underlying9 (hval 2 9 v2 rfl rfl) h2
  obtain ⟨a3, rfl, rfl, rfl, w3⟩ := open_int Ybaf.underlying3 (hval 3 3 v3 rfl rfl) h3
  obtain ⟨a4, len4, cap4, rfl⟩ := okWide_slice Ybaf.underlying22 (hval 4 22 v4 rfl rfl)
  have k4 := h4
  have lt4 : ∀ x ∈ p4, x.block < W.heap.size := by obtain ⟨m, hm⟩ := k4; exact DataW.trod_lt m _ _ _ hm
  obtain ⟨l4, e4, b4⟩ : ∃ l : List UInt8, l.length = len4 ∧ Bs W (.slice a4 len4 cap4) l := by
    obtain ⟨fuel, hf⟩ := h4
    rcases open_ints Ybaf.underlying22 Ybaf.underlying5 (by kernel_rfl) hf with ⟨hcs, _⟩ | ⟨x, l, c, zs, hcs, _, hl, hm, hz, _, hcell, hwz⟩
    · simp [Value.cells] at hcs
      obtain ⟨rfl, rfl, rfl⟩ := hcs
      exact bs_of (zs' := []) (.inl ⟨rfl, rfl, rfl⟩)
    · simp [Value.cells] at hcs
      obtain ⟨rfl, rfl, rfl⟩ := hcs
      exact bs_of (.inr ⟨_, rfl, hl, by simpa using hz, hcell, hwz⟩)
  clear hA0 hval0
  obtain ⟨ax, tx, hvx, hcx, htx, _⟩ := laid_sentinel (g := 0) (show laidMet Ybaf.prog (_ :: []) W from hL) (by kernel_rfl) (by kernel_rfl) Ybaf.underlying41 (row65 (by kernel_rfl)) Ybaf.underlying65 Ybaf.underlying67 rfl rfl Ybaf.underlying9 (by kernel_rfl) (by kernel_rfl)
  have hE := cell_of_var hvx (by kernel_rfl)
  refine (walk a0 s1 s2 a3 a4 len4 cap4 _ _ W l4 w0 e4 b4 hE).mono fun e W' ⟨he, bel⟩ => ?_
  subst he
  exact ⟨_, rfl, _, _, _, [], _, [], hW', trodAll_mk1 (shut_bool Ybaf.underlying4 _), (trodAll_cons_mk (shut_int Ybaf.underlying5 w0) (trodAll_cons_mk (shut_string Ybaf.underlying9 z1) (trodAll_cons_mk (shut_string Ybaf.underlying9 z2) (trodAll_cons_mk (shut_int Ybaf.underlying3 w3) (trodAll_cons_mk (Below.trod laidOut (by kernel_rfl) (of_decide_eq_true (by kernel_rfl)) k4 bel lt4) trodAll_mk0))))), rfl, bel.frame _, fun h => by cases h⟩

theorem stops : Ybaf.pinned.checked.prog.stops = Rows.lawS2718BSetRow.stops := by kernel_rfl
theorem stopKnobs : Ybaf.pinned.checked.prog.stopKnobs = [] := by kernel_rfl
theorem quiet (os : Os) : Stop.quiet Ybaf.pinned.checked.prog os := by
  intro k hk
  rw [stopKnobs] at hk
  cases hk

/-- THE STATEMENT -/
theorem proved : Rows.LawS2718BSetToldSaid :=
  Claim7.holds_of_told_tied_any_at .later 3 Ybaf.f3 _ _ [] _ _ _ _ _ (by kernel_rfl) rfl rfl rfl laidOut (by kernel_rfl) rfl ⟨rfl, rfl, rfl, rfl, rfl, rfl, rfl⟩ rfl rfl (by kernel_rfl) (by kernel_rfl) Ybaf.func3 (by kernel_rfl)
    (of_decide_eq_true (by kernel_rfl)) (of_decide_eq_true (by kernel_rfl)) stops.symm rfl stopKnobs.symm (by kernel_rfl)
    (by kernel_rfl) (by kernel_rfl) (by kernel_rfl) (by kernel_rfl) (by kernel_rfl) (by kernel_rfl) (by kernel_rfl) (by kernel_rfl) (by kernel_rfl) rfl (by kernel_rfl) rfl rfl
    rfl rfl
    rfl (by kernel_rfl) (by kernel_rfl) (by kernel_rfl) (by decide) (by kernel_rfl) lawS2718BSet_row_tie
    (OpenClaim.moreEntering_of (by kernel_rfl) (by kernel_rfl) (by kernel_rfl) (by kernel_rfl) (by kernel_rfl) (by kernel_rfl) (by kernel_rfl) (by kernel_rfl) (by kernel_rfl) (by kernel_rfl))
    ⟨_, WideRow.started_initial, quiet _⟩
    (fun os started _ H enc _ => lifted os started H enc)
#print axioms proved
end Go.Proofs.YbulkbdgoFmt.lawS2718BSet
