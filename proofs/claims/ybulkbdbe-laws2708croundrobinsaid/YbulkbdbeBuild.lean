import Derived.Test.YbulkbdbeDone
import Derived.Test.YbulkbdbePlain
import Derived.Test.YbulkbdbeStore
import Derived.Deep.CutBlock
import Derived.Deep.DeepCutAuto
namespace Go.Proofs.Ybulkbdbe
open Go.RowKit Go.Deep
set_option linter.unusedVariables false

theorem run_make_wide {P : Program} (t e : TypeId) (z : Value) (size bytes : Nat) (ht : P.underlying t = some (.slice e)) (hinfo : (P.info? e).map (fun i => (i.zero, i.size, i.bytes)) = some (some z, size, bytes))
    (kl kc : IntKind) (n : Nat) (hbytes : bytes * n ≤ 281474976710656) (h63 : n ≤ 9223372036854775807) (w : World) :
    (Instr.makeSlice t (.int kl (n : Int)) (.int kc (n : Int))).run P w = .ok (.slice (some ⟨w.heap.size, 0, none⟩) n n) (w.alloc (.cells (madeCells z.cells (n * size)) e)) := by
  obtain ⟨i, hi, hzz⟩ := Option.map_eq_some_iff.1 hinfo
  simp only [Prod.mk.injEq] at hzz
  obtain ⟨hz, hs, hb⟩ := hzz
  have hb' : (i.bytes : Int) * (n : Int) ≤ 281474976710656 := by
    rw [hb]
    have h : ((bytes * n : Nat) : Int) ≤ 281474976710656 := by omega
    rwa [Int.natCast_mul] at h
  have hr := run_make (P := P) w t e i z ht hi hz kl kc n n (by omega) (Int.le_refl _) hb' (by omega)
  simp only [Int.toNat_natCast, hs] at hr
  exact hr

theorem Yba.info97 : (Yba.prog.info? 97).map (fun i => (i.zero, i.size, i.bytes)) = some (some (.agg #[.bool false, .slice none 0 0, .slice none 0 0]), 3, 56) := by kernel_rfl
theorem Yba.info106 : (Yba.prog.info? 106).map (fun i => (i.zero, i.size, i.bytes)) = some (some (.agg #[.slice none 0 0, .int .u64 0]), 2, 32) := by kernel_rfl
theorem Yba.info98 : (Yba.prog.info? 98).map (fun i => (i.zero, i.size, i.bytes)) = some (some (.slice none 0 0), 1, 24) := by kernel_rfl
theorem Yba.info54 : (Yba.prog.info? 54).map (fun i => (i.zero, i.size, i.bytes)) = some (some (.slice none 0 0), 1, 24) := by kernel_rfl
theorem Yba.info99 : (Yba.prog.info? 99).map (fun i => (i.zero, i.size, i.bytes)) = some (some (.slice none 0 0), 1, 24) := by kernel_rfl
theorem Yba.info100 : (Yba.prog.info? 100).map (fun i => (i.zero, i.size, i.bytes)) = some (some (.pointer none), 1, 8) := by kernel_rfl

theorem start4 (w : World) (p4 : Option Addr) (n4 c4 : Nat) (Z : Array Value) :
    ((((w.alloc (.cells #[.slice p4 n4 c4] 54)).alloc (.cells #[.int .i64 0] 3)).alloc (.cells #[.slice none 0 0] 54)).alloc (.cells Z 86)).rowIs w.heap.size 54 1 (fun _ => .slice p4 n4 c4) ∧
    ((((w.alloc (.cells #[.slice p4 n4 c4] 54)).alloc (.cells #[.int .i64 0] 3)).alloc (.cells #[.slice none 0 0] 54)).alloc (.cells Z 86)).rowIs (w.heap.size + 1) 3 1 (fun _ => .int .i64 (0 : Nat)) ∧
    ((((w.alloc (.cells #[.slice p4 n4 c4] 54)).alloc (.cells #[.int .i64 0] 3)).alloc (.cells #[.slice none 0 0] 54)).alloc (.cells Z 86)).rowIs (w.heap.size + 1 + 1) 54 1 (fun _ => .slice none 0 0) ∧
    ((((w.alloc (.cells #[.slice p4 n4 c4] 54)).alloc (.cells #[.int .i64 0] 3)).alloc (.cells #[.slice none 0 0] 54)).alloc (.cells Z 86)).rowIs (w.heap.size + 1 + 1 + 1) 86 Z.size (fun q => Z.getD q (.bool false)) ∧
    Below w.heap.size w ((((w.alloc (.cells #[.slice p4 n4 c4] 54)).alloc (.cells #[.int .i64 0] 3)).alloc (.cells #[.slice none 0 0] 54)).alloc (.cells Z 86)) ∧
    ((((w.alloc (.cells #[.slice p4 n4 c4] 54)).alloc (.cells #[.int .i64 0] 3)).alloc (.cells #[.slice none 0 0] 54)).alloc (.cells Z 86)).heap.size = w.heap.size + 4 := by
  refine ⟨(((row_one w _ 54).alloc _).alloc _).alloc _, ?_, ?_, ?_, ?_, by simp⟩
  · have := ((row_one (w.alloc (.cells #[.slice p4 n4 c4] 54)) (.int .i64 0) 3).alloc (.cells #[.slice none 0 0] 54)).alloc (.cells Z 86)
    simpa using this
  · have := (row_one ((w.alloc (.cells #[.slice p4 n4 c4] 54)).alloc (.cells #[.int .i64 0] 3)) (.slice none 0 0) 54).alloc (.cells Z 86)
    simpa using this
  · have := World.rowIs_alloc (((w.alloc (.cells #[.slice p4 n4 c4] 54)).alloc (.cells #[.int .i64 0] 3)).alloc (.cells #[.slice none 0 0] 54)) Z 86 (fun q => Z.getD q (.bool false)) (fun o ho => by simp [Array.getD, ho])
    simpa using this
  · have a1 : Below w.heap.size w (w.alloc (.cells #[.slice p4 n4 c4] 54)) := (Below.refl _ _).alloc (Nat.le_refl _) _
    have a2 := a1.alloc a1.size (.cells #[.int .i64 0] 3)
    have a3 := a2.alloc a2.size (.cells #[.slice none 0 0] 54)
    exact a3.alloc a3.size _

/-- a slice of bytes that came in -/
structure By (w : World) (p : Option Addr) (n : Nat) (z : Nat → Nat) : Prop where
  num : ∀ q, q < n → ∃ a, p = some a ∧ w.cell? (a.add q) = some (.int .u8 (z q))
  lt : ∀ q, z q < 256

theorem By.keep {w wx : World} {p : Option Addr} {n : Nat} {z : Nat → Nat} (h : By w p n z) (f : ∀ a v, w.cell? a = some v → wx.cell? a = some v) : By wx p n z :=
  ⟨fun q hq => by
    obtain ⟨a, e, hc⟩ := h.num q hq
    exact ⟨a, e, f _ _ hc⟩, h.lt⟩

set_option maxHeartbeats 4000000 in
set_option maxRecDepth 100000 in
theorem law_any (p0 p1 p2 p3 p4 : Option Addr) (n0 n1 n2 n3 n4 c0 c1 c2 c3 c4 : Nat) (z0 z1 z2 z3 dz : Nat → Nat) (calls : Nat) (w : World) (h0 : By w p0 n0 z0) (h1 : By w p1 n1 z1) (h2 : By w p2 n2 z2) (h3 : By w p3 n3 z3)
    (h4 : ∀ q, q < n4 → ∃ a, p4 = some a ∧ w.cell? (a.add q) = some (.int .u64 (dz q))) (hc : calls < 256) :
    Calls Yba.prog 7 #[.slice p0 n0 c0, .slice p1 n1 c1, .slice p2 n2 c2, .slice p3 n3 c3, .slice p4 n4 c4, .int .u8 calls] w fun e w' => e = .returned (.bool true) ∧ Below w.heap.size w w' := by
  have hmf : ∀ (fn : Fn) (first cap : Array Value) (w : World), (Instr.makeFunc fn first cap).run Yba.prog w = .ok (.func fn first cap) w := fun _ _ _ _ => rfl
  obtain ⟨np, hnp⟩ : ∃ np, np = min n0 8 := ⟨_, rfl⟩
  have hnp8 : np ≤ 8 := by omega
  have hmin : (if (8 : Int) < (n0 : Int) then (8 : Int) else (n0 : Int)) = (np : Int) := by split <;> omega
  obtain ⟨Z, hZ⟩ : ∃ Z, Yba.zeroCells86.setIfInBounds 1 (Value.int .i64 0) = Z := ⟨_, rfl⟩
  obtain ⟨x9, hz9⟩ : ∃ x, Z[9]? = some x := Option.isSome_iff_exists.1 (by rw [← hZ]; kernel_rfl)
  obtain ⟨x269, hz269⟩ : ∃ x, Z[269]? = some x := Option.isSome_iff_exists.1 (by rw [← hZ]; kernel_rfl)
  have hz1 : Z[1]? = some (.int .i64 0) := by rw [← hZ]; kernel_rfl
  have mk1 := fun wx => run_make_wide (P := Yba.prog) 87 97 _ 3 56 Yba.underlying87 Yba.info97 .i64 .i64 np (by omega) (by omega) wx
  have mk2 := fun wx => run_make_row' (P := Yba.prog) 92 98 _ _ Yba.underlying92 Yba.info98 rfl .i64 .i64 np (by omega) (by omega) wx
  have mk3 := fun wx => run_make_row' (P := Yba.prog) 93 54 _ _ Yba.underlying93 Yba.info54 rfl .i64 .i64 np (by omega) (by omega) wx
  have hnn : np ≤ n0 := by omega
  clear hnp
  go_enter Yba.func7, Yba.ntmps7
  go_wp2_with fail
  have h4a := start4 w p4 n4 c4 Z
  generalize (((w.alloc (.cells #[.slice p4 n4 c4] 54)).alloc (.cells #[.int .i64 0] 3)).alloc (.cells #[.slice none 0 0] 54)).alloc (.cells Z 86) = w4 at *
  obtain ⟨rD, rX, rG, rB, hb4, hs4⟩ := h4a
  have hZs : 269 < Z.size := (Array.getElem?_eq_some_iff.1 hz269).1
  have cB := rB.cell (i := 269) hZs
  have fB := rB.frozen 269
  have HR : Hid (w4.rowIs w.heap.size 54 1 (fun _ => .slice p4 n4 c4) ∧ w4.rowIs (w.heap.size + 1) 3 1 (fun _ => .int .i64 (0 : Nat)) ∧ w4.rowIs (w.heap.size + 1 + 1) 54 1 (fun _ => .slice none 0 0) ∧ w4.rowIs (w.heap.size + 1 + 1 + 1) 86 Z.size (fun q => Z.getD q (.bool false)) ∧ Below w.heap.size w w4 ∧ w4.heap.size = w.heap.size + 4) := ⟨rD, rX, rG, rB, hb4, hs4⟩
  clear rD rX rG rB hb4 hs4
  rw [run_store _ _ _ _ _ rfl, cB, fB]
  have rB5 := HR.out.2.2.2.1.set 269 (.func (.func 17) #[] #[.pointer (some ⟨w.heap.size + 1 + 1, 0, none⟩), .pointer (some ⟨w.heap.size, 0, none⟩), .pointer (some ⟨w.heap.size + 1, 0, none⟩)])
  generalize hb : w.heap.size = H at *
  have h5 : Fr (fun b => b = H + 1 + 1 + 1) w4 (w4.setCell ⟨H + 1 + 1 + 1, 269, none⟩ (.func (.func 17) #[] #[.pointer (some ⟨H + 1 + 1, 0, none⟩), .pointer (some ⟨H, 0, none⟩), .pointer (some ⟨H + 1, 0, none⟩)])) := Fr.setCell (M := fun b => b = H + 1 + 1 + 1) (Fr.refl _ w4) (p := ⟨H + 1 + 1 + 1, 269, none⟩) rfl _
  simp only [Bool.false_eq_true, if_false]
  generalize hw5 : w4.setCell ⟨H + 1 + 1 + 1, 269, none⟩ (.func (.func 17) #[] #[.pointer (some ⟨H + 1 + 1, 0, none⟩), .pointer (some ⟨H, 0, none⟩), .pointer (some ⟨H + 1, 0, none⟩)]) = w5 at *
  have hs5 : w5.heap.size = H + 4 := by rw [← hw5]; simp [World.setCell]; exact HR.out.2.2.2.2.2
  have HR5 : Hid (w5.rowIs H 54 1 (fun _ => .slice p4 n4 c4) ∧ w5.rowIs (H + 1) 3 1 (fun _ => .int .i64 (0 : Nat)) ∧ w5.rowIs (H + 1 + 1) 54 1 (fun _ => .slice none 0 0) ∧ w5.rowIs (H + 1 + 1 + 1) 86 Z.size (fun j => if j = 269 then .func (.func 17) #[] #[.pointer (some ⟨H + 1 + 1, 0, none⟩), .pointer (some ⟨H, 0, none⟩), .pointer (some ⟨H + 1, 0, none⟩)] else Z.getD j (.bool false)) ∧ Below H w w5) :=
    ⟨h5.row HR.out.1 (by omega), h5.row HR.out.2.1 (by omega), h5.row HR.out.2.2.1 (by omega), rB5, HR.out.2.2.2.2.1.trans (h5.below (fun b hb => by omega) (by have := HR.out.2.2.2.2.2; omega))⟩
  clear h5 rB5 HR cB fB hw5
  go_simp
  go_wp2_with fail
  obtain ⟨f0, HF0⟩ : ∃ f0 : Nat → Nat, Hid (f0 = fun q => z0 q + 1) := ⟨_, rfl⟩
  have hP0 := P1.start w5 np (fun _ => ⟨0, fun _ => 0, fun _ => 0, fun _ _ => 0, 0, 0, 0, 0, 0, fun _ => 0, fun _ => 0, .slice none 0 0, .slice none 0 0, 0, 0⟩) (sumW f0)
  rw [hs5] at hP0
  generalize hwS : ((((w5.alloc (.cells #[.slice (some ⟨H + 4 + 1, 0, none⟩) np np, .slice none 0 0] 91)).alloc (.cells (madeCells #[.bool false, .slice none 0 0, .slice none 0 0] (np * 3)) 97)).alloc (.cells (madeCells #[.slice none 0 0] np) 98)).alloc (.cells (madeCells #[.slice none 0 0] np) 54)).alloc (.cells (madeCells #[.slice none 0 0] np) 54) = wS at hP0 ⊢
  have HP0 : Hid (P1 w5 wS (H + 4) (H + 4 + 1) (H + 4 + 1 + 1) (H + 4 + 1 + 1 + 1) (H + 4 + 1 + 1 + 1 + 1) (H + 4 + 5) np 0 0 0 _ (sumW f0) (.slice none 0 0) (.slice none 0 0)) := hP0
  clear hP0 hwS mk1 mk2 mk3
  generalize hT : H + 4 = T at *
  generalize hPR : T + 1 = PR at *
  generalize hRF : PR + 1 = RF at *
  generalize hTU : RF + 1 = TU at *
  generalize hLU : TU + 1 = LU at *
  generalize hHB : T + 5 = HB at *
  have HO : Hid (H + 4 = T ∧ T + 1 = PR ∧ PR + 1 = RF ∧ RF + 1 = TU ∧ TU + 1 = LU ∧ T + 5 = HB) := ⟨hT, hPR, hRF, hTU, hLU, hHB⟩
  clear hT hPR hRF hTU hLU hHB
  have HK : Hid (∀ wx, Fr (fun b => T ≤ b) w5 wx → ∀ a v, w.cell? a = some v → wx.cell? a = some v) := fun wx f a v hc => by
    have hlt : a.block < H := by have := block_lt_of_cell hc; omega
    have h5 : w5.cell? a = some v := by rw [HR5.out.2.2.2.2.cell hlt]; exact hc
    exact f.cell h5 (by have := HO.out.1; omega)
  go_loopw [20, 22, 23] (fun pvv sv iv wr => ∃ (i : Nat) (es : Nat → En) (tv : Value), sv = .int .u64 (prevW f0 i : Nat) ∧ iv = .int .i64 i ∧ i ≤ np ∧ P1 w5 wr T PR RF TU LU HB np i i i es (sumW f0) tv pvv) (fun _ _ iv _ => np - (intOf iv).toNat)
  case atStart => exact ⟨0, _, _, rfl, rfl, by omega, HP0.out⟩
  case round =>
    obtain ⟨i, es, tv, rfl, rfl, hi, hp⟩ := hrel
    by_cases hlt : i < np
    · have hby := h0.keep (HK.out wr hp.fr)
      obtain ⟨a, ha, ca⟩ := hby.num i (by omega)
      have hz := h0.lt i
      have hzi : (z0 i : Int) < 256 := by omega
      have hii : (i : Int) < (n0 : Int) := by omega
      have hini : (i : Int) < (np : Int) := by omega
      have hi8 : (i : Int) < 8 := by omega
      have hpr := prevW_le f0 (fun q => by rw [HF0.out]; have := h0.lt q; show z0 q + 1 ≤ 256; omega) i
      have hpri : (prevW f0 i : Int) ≤ 2048 := by omega
      have HS : Hid (sumW f0 i = prevW f0 i + (z0 i + 1)) := (by rw [sumW_prev, HF0.out] : sumW f0 i = prevW f0 i + (z0 i + 1))
      have hwu : IntKind.u64.wrap ((prevW f0 i : Int) + ((z0 i : Int) + 1)) = ((sumW f0 i : Nat) : Int) := by rw [HS.out, IntKind.wrap_u64]; omega
      have cT : wr.cell? ⟨T, 1, none⟩ = some tv := hp.rw.t.cell (i := 1) (by omega)
      have fT := hp.rw.t.frozen 1
      have HP : Hid (P1 w5 wr T PR RF TU LU HB np i i i es (sumW f0) tv u20) := hp
      clear hp hby hpr
      subst ha
      obtain ⟨i33, hi33, hz33, hs33, hb33⟩ := info_parts Yba.info33
      go_wp2_with (at_builtin; refine wpList_append_own_at _ rfl (.tmp 84) (.tmp 86) 54 rfl HB 33 i33 (.int .u64 0) 1 8 Yba.underlying54 hi33 hz33 hs33 hb33 rfl (by decide) tv i (cells (sumW f0) i) rfl ?hqo ⟨wr.heap.size, 0, none⟩ 1 1 [.int .u64 (sumW f0 i : Nat)] rfl rfl ?qc2 ?qc3 ?qc4 ?qc5 ?qc6 ?_)
      case hqo => exact HP.out.tvo.alloc _
      case qc3 => first | rfl | (intro u hu; simp at hu; subst hu; rfl)
      case qc4 => unfold maxLen; omega
      case qc5 => omega
      case qc6 => have := HP.out.hb; simp; omega
      intro v1 w1 hown1 hgrow1 hnil1 hat1
      obtain ⟨g1, cap1, hv1⟩ : ∃ g cap, v1 = .slice (some ⟨g, 0, none⟩) (i + 1) cap := by
        rcases hown1.2 with ⟨_, q⟩ | ⟨g, cap, cur, q, _⟩
        · omega
        · exact ⟨g, cap, q⟩
      subst hv1
      have hfr1 : Fr (fun b => some b = tv.ownBlock) wr w1 := ((Fr.refl _ _).alloc _).grown hgrow1 (fun k hk => .inl hk.symm)
      have ho1 : w1.ownsRow HB 33 1 (.slice (some ⟨g1, 0, none⟩) (i + 1) cap1) (i + 1) (cells (sumW f0) (i + 1)) := by rw [cells_succ]; exact hown1
      have hat1' : Own tv (.slice (some ⟨g1, 0, none⟩) (i + 1) cap1) wr.heap.size := by
        rcases hat1 with q | q
        · exact .inl q
        · exact .inr ⟨_, q, by simp⟩
      have HP2 : Hid (P1 w5 (w1.setCell ⟨T, 1, none⟩ (.slice (some ⟨g1, 0, none⟩) (i + 1) cap1)) T PR RF TU LU HB np i (i + 1) i es (sumW f0) (.slice (some ⟨g1, 0, none⟩) (i + 1) cap1) u20) := HP.out.stepT hfr1 ho1 hat1'
      have hTl : ¬ some T = tv.ownBlock := fun e => by have := (HP.out.tvo.lt T e.symm).1; have := HO.out; omega
      have rT1 := hfr1.row HP.out.rw.t hTl
      have cT1 := rT1.cell (i := 1) (by omega)
      have fT1 := rT1.frozen 1
      clear hown1 hgrow1 hnil1 hat1 hfr1 ho1 hat1' hTl rT1 cT fT HP ca
      go_wp2_with (at_builtin; refine wpList_append_own_at _ rfl (.tmp 91) (.tmp 93) 54 rfl HB 33 i33 (.int .u64 0) 1 8 Yba.underlying54 hi33 hz33 hs33 hb33 rfl (by decide) u20 i (cells (sumW f0) i) rfl ?hqp ⟨w1.heap.size, 0, none⟩ 1 1 [.int .u64 (sumW f0 i : Nat)] rfl rfl ?rc2 ?rc3 ?rc4 ?rc5 ?rc6 ?_)
      case hqp => exact HP2.out.pvo.alloc _
      case rc2 =>
        intro q u hq
        have := cell_one_new (w1.setCell ⟨T, 1, none⟩ (.slice (some ⟨g1, 0, none⟩) (i + 1) cap1)) (.int .u64 (sumW f0 i : Nat)) 33 q u hq
        rwa [show (w1.setCell ⟨T, 1, none⟩ (.slice (some ⟨g1, 0, none⟩) (i + 1) cap1)).heap.size = w1.heap.size from by simp [World.setCell]] at this
      case rc3 => first | rfl | (intro u hu; simp at hu; subst hu; rfl)
      case rc4 => unfold maxLen; omega
      case rc5 => omega
      case rc6 => have := HP2.out.hb; simp [World.setCell] at this ⊢; omega
      intro v2 w2 hown2 hgrow2 hnil2 hat2
      obtain ⟨g2, cap2, hv2⟩ : ∃ g cap, v2 = .slice (some ⟨g, 0, none⟩) (i + 1) cap := by
        rcases hown2.2 with ⟨_, q⟩ | ⟨g, cap, cur, q, _⟩
        · omega
        · exact ⟨g, cap, q⟩
      subst hv2
      have hfr2 : Fr (fun b => some b = u20.ownBlock) (w1.setCell ⟨T, 1, none⟩ (.slice (some ⟨g1, 0, none⟩) (i + 1) cap1)) w2 := ((Fr.refl _ _).alloc _).grown hgrow2 (fun k hk => .inl hk.symm)
      have ho2 : w2.ownsRow HB 33 1 (.slice (some ⟨g2, 0, none⟩) (i + 1) cap2) (i + 1) (cells (sumW f0) (i + 1)) := by rw [cells_succ]; exact hown2
      have hat2' : Own u20 (.slice (some ⟨g2, 0, none⟩) (i + 1) cap2) (w1.setCell ⟨T, 1, none⟩ (.slice (some ⟨g1, 0, none⟩) (i + 1) cap1)).heap.size := by
        rcases hat2 with q | q
        · exact .inl q
        · exact .inr ⟨_, q, by simp⟩
      have HP3 : Hid (P1 w5 w2 T PR RF TU LU HB np i (i + 1) (i + 1) es (sumW f0) (.slice (some ⟨g1, 0, none⟩) (i + 1) cap1) (.slice (some ⟨g2, 0, none⟩) (i + 1) cap2)) := HP2.out.stepP hfr2 ho2 hat2'
      clear hown2 hgrow2 hnil2 hat2 hfr2 ho2 hat2' HP2 cT1 fT1
      obtain ⟨nl, HNL⟩ : ∃ nl, Hid (nl = nlF n1 z1 i) := ⟨_, rfl⟩
      have hnl3 : nl ≤ 3 := by rw [HNL.out]; exact nlF_le n1 z1 i
      have cT0 : w2.cell? ⟨T, 0, none⟩ = some (.slice (some ⟨PR, 0, none⟩) np np) := HP3.out.rw.t.cell (i := 0) (by omega)
      have mk4 := fun wx => run_make_wide (P := Yba.prog) 95 106 _ 2 32 Yba.underlying95 Yba.info106 .i64 .i64 nl (by omega) (by omega) wx
      have mk5 := fun wx => run_make_row' (P := Yba.prog) 98 99 _ _ Yba.underlying98 Yba.info99 rfl .i64 .i64 nl (by omega) (by omega) wx
      have mk6 := fun wx => run_make_row' (P := Yba.prog) 54 33 _ _ Yba.underlying54 Yba.info33 rfl .i64 .i64 nl (by omega) (by omega) wx
      go_upto_if 97 with fail
      go_cut [24] (fun s24 wx => s24 = .int .i64 (nl : Nat) ∧ wx = w2)
      case first =>
        by_cases hn1 : n1 = 0
        · have hn1i : (n1 : Int) = 0 := by omega
          have HN1 : Hid (nl = 1) := (by rw [HNL.out]; unfold nlF; rw [if_pos hn1] : nl = 1)
          go_wp2_with fail
          go_meet
          case rel => exact ⟨by rw [HN1.out]; rfl, rfl⟩
        · have hn1i : ¬ (n1 : Int) = 0 := by omega
          have hn1p : (0 : Int) < (n1 : Int) := by omega
          have hn1b : decide ((0 : Int) < (n1 : Int)) = true := decide_eq_true hn1p
          have hby1 := h1.keep (HK.out w2 HP3.out.fr)
          have hmodn : i % n1 < n1 := Nat.mod_lt _ (by omega)
          obtain ⟨b1, hb1, cb1⟩ := hby1.num (i % n1) hmodn
          have hzb := h1.lt (i % n1)
          have htm : ((i : Int)).tmod (n1 : Int) = ((i % n1 : Nat) : Int) := rfl
          have hmi : ((i % n1 : Nat) : Int) < (n1 : Int) := by omega
          have htz : ((z1 (i % n1) : Int)).tmod 4 = ((z1 (i % n1) % 4 : Nat) : Int) := rfl
          have hz4 : ((z1 (i % n1) % 4 : Nat) : Int) < 4 := by omega
          have HN1 : Hid (nl = z1 (i % n1) % 4) := (by rw [HNL.out]; unfold nlF; rw [if_neg hn1] : nl = z1 (i % n1) % 4)
          subst hb1
          clear hby1
          go_wp2_with fail
          go_meet
          case rel => exact ⟨by rw [HN1.out, Int.natCast_emod]; rfl, rfl⟩
      case rest =>
        obtain ⟨rfl, rfl⟩ := hcut
        go_upto_region 23 with fail
        have cP := (HP3.out.rw.p.alloc (.cells (madeCells #[.slice none 0 0, .int .u64 0] (nl * 2)) 106)).cell (i := i * 3 + 1) (by omega)
        have fP := (HP3.out.rw.p.alloc (.cells (madeCells #[.slice none 0 0, .int .u64 0] (nl * 2)) 106)).frozen (i * 3 + 1)
        go_upto_region 24 with fail
        clear cP fP mk4 cT0
        obtain ⟨wb, hwb⟩ : ∃ wb, wb = (wc.alloc (.cells (madeCells #[.slice none 0 0, .int .u64 0] (nl * 2)) 106)).setCell ⟨PR, i * 3 + 1, none⟩ (.slice (some ⟨wc.heap.size, 0, none⟩) nl nl) := ⟨_, rfl⟩
        rw [← hwb]
        have hsb : wb.heap.size = wc.heap.size + 1 := by rw [hwb]; simp [World.setCell]
        have hfb : Fr (fun b => b = PR) wc wb := by rw [hwb]; exact Fr.setCell (M := fun b => b = PR) ((Fr.refl _ wc).alloc _) (p := ⟨PR, i * 3 + 1, none⟩) rfl _
        have HWB : Hid (wb = _) := hwb
        have HFB : Hid (Fr (fun b => b = PR) wc wb) := hfb
        clear hwb hfb
        have rR := (HFB.out.row HP3.out.rw.r (by have := HP3.out.rw.o; omega)).alloc (.cells (madeCells #[.slice none 0 0] nl) 99)
        have cR := rR.cell (i := i) hlt
        have fR := rR.frozen i
        clear rR
        go_upto_region 25 with fail
        clear cR fR mk5
        obtain ⟨wd, hwd⟩ : ∃ wd, wd = (wb.alloc (.cells (madeCells #[.slice none 0 0] nl) 99)).setCell ⟨RF, i, none⟩ (.slice (some ⟨wc.heap.size + 1, 0, none⟩) nl nl) := ⟨_, rfl⟩
        rw [← hwd]
        have hsd : wd.heap.size = wc.heap.size + 2 := by rw [hwd]; simp [World.setCell]; omega
        have hfd : Fr (fun b => b = PR ∨ b = RF) wc wd := by rw [hwd]; exact Fr.setCell (M := fun b => b = PR ∨ b = RF) ((HFB.out.mono fun b _ e => .inl e).alloc _) (p := ⟨RF, i, none⟩) (.inr rfl) _
        have HWD : Hid (wd = _) := hwd
        have HFD : Hid (Fr (fun b => b = PR ∨ b = RF) wc wd) := hfd
        clear hwd hfd HFB hsb
        have rU := (HFD.out.row HP3.out.rw.u (by have := HP3.out.rw.o; omega)).alloc (.cells (madeCells #[.int .u64 0] nl) 33)
        have cU := rU.cell (i := i) hlt
        have fU := rU.frozen i
        clear rU
        go_upto_region 26 with fail
        clear cU fU mk6
        have hP2 := HP3.out.opened hlt nl (sumW (lwF n2 z2 i)) (kF n3 z3 i) (fun _ => 0) (fun _ => 0) (fun _ _ => 0)
        rw [← HWB.out, ← HWD.out] at hP2
        generalize hwS2 : (wd.alloc (.cells (madeCells #[.int .u64 0] nl) 33)).setCell ⟨TU, i, none⟩ (.slice (some ⟨wc.heap.size + 2, 0, none⟩) nl nl) = wS2 at hP2 ⊢
        generalize hlo : wc.heap.size = lo at *
        have HP2 : Hid (P2 w5 wS2 T PR RF TU LU HB lo np i 0 0 0 nl es (sumW f0) (.slice (some ⟨g1, 0, none⟩) (i + 1) cap1) (.slice (some ⟨g2, 0, none⟩) (i + 1) cap2) (sumW (lwF n2 z2 i)) (kF n3 z3 i) (fun _ => 0) (fun _ => 0) (fun _ _ => 0) (.slice none 0 0) (.slice none 0 0)) := hP2
        clear hP2 hwS2 hsd HWB HWD HFD HP3 hlo
        clear hz hzi hii hpri HS hwu
        go_wp2_with fail
        go_loopw [26, 27] (fun lsv jv wr2 => ∃ (j : Nat) (C RC : Nat → Nat) (E : Nat → Nat → Nat) (uv um : Value), lsv = .int .u64 (prevW (lwF n2 z2 i) j : Nat) ∧ jv = .int .i64 j ∧ j ≤ nl ∧ P2 w5 wr2 T PR RF TU LU HB lo np i j j j nl es (sumW f0) (.slice (some ⟨g1, 0, none⟩) (i + 1) cap1) (.slice (some ⟨g2, 0, none⟩) (i + 1) cap2) (sumW (lwF n2 z2 i)) (kF n3 z3 i) C RC E uv um) (fun _ jv _ => nl - (intOf jv).toNat)
        case atStart => exact ⟨0, _, _, _, _, _, rfl, rfl, by omega, HP2.out⟩
        case round =>
          obtain ⟨j, C, RC, E, uv, um, rfl, rfl, hj, hp2⟩ := hrel
          by_cases hjl : j < nl
          · have HQ : Hid (P2 w5 wr T PR RF TU LU HB lo np i j j j nl es (sumW f0) (.slice (some ⟨g1, 0, none⟩) (i + 1) cap1) (.slice (some ⟨g2, 0, none⟩) (i + 1) cap2) (sumW (lwF n2 z2 i)) (kF n3 z3 i) C RC E uv um) := hp2
            clear hp2 HP2
            obtain ⟨lw, HLW⟩ : ∃ lw, Hid (lw = lwF n2 z2 i j) := ⟨_, rfl⟩
            have hjli : (j : Int) < (nl : Int) := by omega
            have hj3 : (j : Int) < 3 := by omega
            have hm3 : IntKind.i64.wrap ((i : Int) * 3 + (j : Int)) = (i : Int) * 3 + (j : Int) := by rw [IntKind.wrap_i64]; omega
            go_upto_if 135 with fail
            go_cut [28] (fun s28 wx => s28 = .int .u64 (lw : Nat) ∧ wr = wx)
            case first =>
              by_cases hn2 : n2 = 0
              · have hn2i : (n2 : Int) = 0 := by omega
                have HN2 : Hid (lw = 1) := (by rw [HLW.out]; unfold lwF; rw [if_pos hn2] : lw = 1)
                go_wp2_with fail
                go_meet
                case rel => exact ⟨by rw [HN2.out]; rfl, rfl⟩
              · have hn2i : ¬ (n2 : Int) = 0 := by omega
                have hn2p : (0 : Int) < (n2 : Int) := by omega
                have hn2b : decide ((0 : Int) < (n2 : Int)) = true := decide_eq_true hn2p
                obtain ⟨q2, hq2⟩ : ∃ q2, (i * 3 + j) % n2 = q2 := ⟨_, rfl⟩
                have hmodn : q2 < n2 := by rw [← hq2]; exact Nat.mod_lt _ (by omega)
                have htm : ((i : Int) * 3 + (j : Int)).tmod (n2 : Int) = (q2 : Int) := by rw [← hq2]; rfl
                obtain ⟨b2, hb2, cb2⟩ := (h2.keep (HK.out wr HQ.out.pc.fr)).num q2 hmodn
                have hzb := h2.lt q2
                have hmi : (q2 : Int) < (n2 : Int) := by omega
                have hzbi : (z2 q2 : Int) < 256 := by omega
                have HN2 : Hid (lw = z2 q2 + 1) := (by rw [HLW.out]; unfold lwF; rw [if_neg hn2, hq2] : lw = z2 q2 + 1)
                subst hb2
                clear hq2
                go_wp2_with fail
                go_meet
                case rel => exact ⟨by rw [HN2.out]; rfl, rfl⟩
            case rest =>
              obtain ⟨rfl, rfl⟩ := hcut
              have HLF : Hid (∀ q, lwF n2 z2 i q ≤ 256) := lwF_le n2 z2 h2.lt i
              have hlwi : (lw : Int) ≤ 256 := by have := HLF.out j; rw [← HLW.out] at this; omega
              have hpri : (prevW (lwF n2 z2 i) j : Int) ≤ 768 := by have := prevW_le (lwF n2 z2 i) HLF.out j; omega
              have hwu2 : IntKind.u64.wrap ((prevW (lwF n2 z2 i) j : Int) + (lw : Int)) = ((sumW (lwF n2 z2 i) j : Nat) : Int) := by rw [sumW_prev, ← HLW.out, IntKind.wrap_u64]; omega
              have cU : wr.cell? ⟨PR, i * 3 + 2, none⟩ = some uv := by
                have := HQ.out.rw.p.cell (i := i * 3 + 2) (by omega)
                rwa [show fp2 es i lo nl uv (i * 3 + 2) = uv from if_pos rfl] at this
              go_wp2_with (at_builtin; refine wpList_append_own_at _ rfl (.tmp 156) (.tmp 158) 54 rfl (lo + 3) 33 i33 (.int .u64 0) 1 8 Yba.underlying54 hi33 hz33 hs33 hb33 rfl (by decide) uv j (cells (sumW (lwF n2 z2 i)) j) rfl ?hqu ⟨wr.heap.size, 0, none⟩ 1 1 [.int .u64 (sumW (lwF n2 z2 i) j : Nat)] rfl rfl ?sc2 ?sc3 ?sc4 ?sc5 ?sc6 ?_)
              case hqu => exact HQ.out.uvo.alloc _
              case sc2 => exact fun q u hq => cell_one_new wr (.int .u64 (sumW (lwF n2 z2 i) j : Nat)) 33 q u hq
              case sc3 => first | rfl | (intro u hu; simp at hu; subst hu; rfl)
              case sc4 => unfold maxLen; omega
              case sc5 => omega
              case sc6 => have := HQ.out.sz; simp; omega
              intro v3 w3 hown3 hgrow3 hnil3 hat3
              obtain ⟨g3, cap3, hv3⟩ : ∃ g cap, v3 = .slice (some ⟨g, 0, none⟩) (j + 1) cap := by
                rcases hown3.2 with ⟨_, q⟩ | ⟨g, cap, cur, q, _⟩
                · omega
                · exact ⟨g, cap, q⟩
              subst hv3
              have hfr3 : Fr (fun b => some b = uv.ownBlock) wr w3 := ((Fr.refl _ _).alloc _).grown hgrow3 (fun k hk => .inl hk.symm)
              have ho3 : w3.ownsRow (lo + 3) 33 1 (.slice (some ⟨g3, 0, none⟩) (j + 1) cap3) (j + 1) (cells (sumW (lwF n2 z2 i)) (j + 1)) := by rw [cells_succ]; exact hown3
              have hat3' : Own uv (.slice (some ⟨g3, 0, none⟩) (j + 1) cap3) wr.heap.size := by
                rcases hat3 with q | q
                · exact .inl q
                · exact .inr ⟨_, q, by simp⟩
              have hQ3 := HQ.out.stepU hfr3 ho3 hat3'
              have rP3 := hfr3.row HQ.out.rw.p (fun e => by have := (HQ.out.uvo.lt PR e.symm).1; have := HQ.out.rw.o; have := HQ.out.pc.hb; have := HQ.out.pc.hb2; omega)
              have cP3 := rP3.cell (i := i * 3 + 2) (by omega)
              have fP3 := rP3.frozen (i * 3 + 2)
              have HQ3 : Hid (P2 w5 (w3.setCell ⟨PR, i * 3 + 2, none⟩ (.slice (some ⟨g3, 0, none⟩) (j + 1) cap3)) T PR RF TU LU HB lo np i j (j + 1) j nl es (sumW f0) (.slice (some ⟨g1, 0, none⟩) (i + 1) cap1) (.slice (some ⟨g2, 0, none⟩) (i + 1) cap2) (sumW (lwF n2 z2 i)) (kF n3 z3 i) C RC E (.slice (some ⟨g3, 0, none⟩) (j + 1) cap3) um) := hQ3
              clear hown3 hgrow3 hnil3 hat3 hfr3 ho3 hat3' hQ3 rP3 cU HQ
              go_upto_region 35 with fail
              clear cP3 fP3
              generalize w3.setCell ⟨PR, i * 3 + 2, none⟩ (.slice (some ⟨g3, 0, none⟩) (j + 1) cap3) = w4' at *
              have cM : w4'.cell? ⟨LU, i, none⟩ = some um := by
                have := HQ3.out.rw.l.cell (i := i) hlt
                rwa [show fl2 es i um i = um from if_pos rfl] at this
              go_wp2_with (at_builtin; refine wpList_append_own_at _ rfl (.tmp 168) (.tmp 170) 54 rfl (lo + 3) 33 i33 (.int .u64 0) 1 8 Yba.underlying54 hi33 hz33 hs33 hb33 rfl (by decide) um j (cells (sumW (lwF n2 z2 i)) j) rfl ?hqm ⟨w4'.heap.size, 0, none⟩ 1 1 [.int .u64 (sumW (lwF n2 z2 i) j : Nat)] rfl rfl ?tc2 ?tc3 ?tc4 ?tc5 ?tc6 ?_)
              case hqm => exact HQ3.out.umo.alloc _
              case tc2 => exact fun q u hq => cell_one_new w4' (.int .u64 (sumW (lwF n2 z2 i) j : Nat)) 33 q u hq
              case tc3 => first | rfl | (intro u hu; simp at hu; subst hu; rfl)
              case tc4 => unfold maxLen; omega
              case tc5 => omega
              case tc6 => have := HQ3.out.sz; simp; omega
              intro v5 w6 hown5 hgrow5 hnil5 hat5
              obtain ⟨g5, cap5, hv5⟩ : ∃ g cap, v5 = .slice (some ⟨g, 0, none⟩) (j + 1) cap := by
                rcases hown5.2 with ⟨_, q⟩ | ⟨g, cap, cur, q, _⟩
                · omega
                · exact ⟨g, cap, q⟩
              subst hv5
              have hfr5 : Fr (fun b => some b = um.ownBlock) w4' w6 := ((Fr.refl _ _).alloc _).grown hgrow5 (fun k hk => .inl hk.symm)
              have ho5 : w6.ownsRow (lo + 3) 33 1 (.slice (some ⟨g5, 0, none⟩) (j + 1) cap5) (j + 1) (cells (sumW (lwF n2 z2 i)) (j + 1)) := by rw [cells_succ]; exact hown5
              have hat5' : Own um (.slice (some ⟨g5, 0, none⟩) (j + 1) cap5) w4'.heap.size := by
                rcases hat5 with q | q
                · exact .inl q
                · exact .inr ⟨_, q, by simp⟩
              have hQ5 := HQ3.out.stepM hfr5 ho5 hat5'
              have rP5 := hfr5.row HQ3.out.rw.l (fun e => by have := (HQ3.out.umo.lt LU e.symm).1; have := HQ3.out.pc.hb; have := HQ3.out.pc.hb2; omega)
              have cP5 := rP5.cell (i := i) hlt
              have fP5 := rP5.frozen i
              have HQ5 : Hid (P2 w5 (w6.setCell ⟨LU, i, none⟩ (.slice (some ⟨g5, 0, none⟩) (j + 1) cap5)) T PR RF TU LU HB lo np i j (j + 1) (j + 1) nl es (sumW f0) (.slice (some ⟨g1, 0, none⟩) (i + 1) cap1) (.slice (some ⟨g2, 0, none⟩) (i + 1) cap2) (sumW (lwF n2 z2 i)) (kF n3 z3 i) C RC E (.slice (some ⟨g3, 0, none⟩) (j + 1) cap3) (.slice (some ⟨g5, 0, none⟩) (j + 1) cap5)) := hQ5
              clear hown5 hgrow5 hnil5 hat5 hfr5 ho5 hat5' hQ5 rP5 cM HQ3
              obtain ⟨kj, HKJ⟩ : ∃ kj, Hid (kj = kF n3 z3 i j) := ⟨_, rfl⟩
              have hkj4 : 0 < kj ∧ kj ≤ 4 := by rw [HKJ.out]; exact kF_pos n3 z3 i j
              go_upto_if 175 with fail
              clear cP5 fP5
              generalize w6.setCell ⟨LU, i, none⟩ (.slice (some ⟨g5, 0, none⟩) (j + 1) cap5) = w7 at *
              go_cut [29] (fun s29 wx => s29 = .int .i64 (kj : Nat) ∧ w7 = wx)
              case first =>
                by_cases hn3 : n3 = 0
                · have hn3i : (n3 : Int) = 0 := by omega
                  have HN3 : Hid (kj = 1) := (by rw [HKJ.out]; unfold kF; rw [if_pos hn3] : kj = 1)
                  go_wp2_with fail
                  go_meet
                  case rel => exact ⟨by rw [HN3.out]; rfl, rfl⟩
                · have hn3i : ¬ (n3 : Int) = 0 := by omega
                  have hn3p : (0 : Int) < (n3 : Int) := by omega
                  have hn3b : decide ((0 : Int) < (n3 : Int)) = true := decide_eq_true hn3p
                  obtain ⟨q3, hq3⟩ : ∃ q3, (i * 3 + j) % n3 = q3 := ⟨_, rfl⟩
                  have hmodn : q3 < n3 := by rw [← hq3]; exact Nat.mod_lt _ (by omega)
                  have htm : ((i : Int) * 3 + (j : Int)).tmod (n3 : Int) = (q3 : Int) := by rw [← hq3]; rfl
                  obtain ⟨b3, hb3, cb3⟩ := (h3.keep (HK.out w7 HQ5.out.pc.fr)).num q3 hmodn
                  have hzb := h3.lt q3
                  have hmi : (q3 : Int) < (n3 : Int) := by omega
                  have htz : ((z3 q3 : Int)).tmod 4 = ((z3 q3 % 4 : Nat) : Int) := rfl
                  have HN3 : Hid (kj = z3 q3 % 4 + 1) := (by rw [HKJ.out]; unfold kF; rw [if_neg hn3, hq3] : kj = z3 q3 % 4 + 1)
                  subst hb3
                  clear hq3
                  go_wp2_with fail
                  go_meet
                  case rel => exact ⟨by rw [HN3.out]; rfl, rfl⟩
              case rest =>
                obtain ⟨rfl, rfl⟩ := hcut
                have mk7 := fun wx => run_make_row' (P := Yba.prog) 99 100 _ _ Yba.underlying99 Yba.info100 rfl .i64 .i64 kj (by omega) (by omega) wx
                obtain ⟨cb, hcb⟩ : ∃ cb, w7.heap.size = cb := ⟨_, rfl⟩
                have hP3 := P3.start w7 kj (fun _ => 0)
                rw [hcb] at hP3
                have hfa : Fr (fun _ => False) w7 ((w7.alloc (.cells (madeCells #[.pointer none] kj) 100)).alloc (.cells (madeCells #[.pointer none] kj) 100)) := ((Fr.refl _ _).alloc _).alloc _
                have hsa : ((w7.alloc (.cells (madeCells #[.pointer none] kj) 100)).alloc (.cells (madeCells #[.pointer none] kj) 100)).heap.size = w7.heap.size + 2 := by simp
                have HP3S : Hid (P3 ((w7.alloc (.cells (madeCells #[.pointer none] kj) 100)).alloc (.cells (madeCells #[.pointer none] kj) 100)) ((w7.alloc (.cells (madeCells #[.pointer none] kj) 100)).alloc (.cells (madeCells #[.pointer none] kj) 100)) cb (cb + 1) kj 0 (fun _ => 0) ∧ Fr (fun _ => False) w7 ((w7.alloc (.cells (madeCells #[.pointer none] kj) 100)).alloc (.cells (madeCells #[.pointer none] kj) 100)) ∧ ((w7.alloc (.cells (madeCells #[.pointer none] kj) 100)).alloc (.cells (madeCells #[.pointer none] kj) 100)).heap.size = w7.heap.size + 2) := ⟨hP3, hfa, hsa⟩
                clear hP3 hfa hsa
                go_wp2_with fail
                generalize (w7.alloc (.cells (madeCells #[.pointer none] kj) 100)).alloc (.cells (madeCells #[.pointer none] kj) 100) = wa at *
                have HCB : Hid (w7.heap.size = cb) := hcb
                clear hcb mk7
                go_loopw [32] (fun ev wx => ∃ (e : Nat) (Ej : Nat → Nat), ev = .int .i64 e ∧ e ≤ kj ∧ P3 wa wx cb (cb + 1) kj e Ej) (fun ev _ => kj - (intOf ev).toNat)
                case atStart => exact ⟨0, _, rfl, by omega, HP3S.out.1⟩
                case round =>
                  obtain ⟨e, Ej, rfl, he, hp3⟩ := hrel
                  by_cases hek : e < kj
                  · have heki : (e : Int) < (kj : Int) := by omega
                    have he4 : (e : Int) < 4 := by omega
                    have HP3 : Hid (P3 wa wr cb (cb + 1) kj e Ej) := hp3
                    clear hp3
                    have cC := fun ob => (HP3.out.c.alloc ob).cell (i := e) hek
                    have fC := fun ob => (HP3.out.c.alloc ob).frozen e
                    have HST : Hid (∀ ob, P3 wa (((wr.alloc ob).setCell ⟨cb, e, none⟩ (.pointer (some ⟨wr.heap.size, 0, none⟩))).setCell ⟨cb + 1, e, none⟩ (.pointer (some ⟨wr.heap.size, 0, none⟩))) cb (cb + 1) kj (e + 1) (fun q => if q = e then wr.heap.size else Ej q)) := fun ob => HP3.out.step ((Fr.refl _ wr).alloc ob) wr.heap.size
                    have rR := fun ob => (HP3.out.r.alloc ob).setOther (a := ⟨cb, e, none⟩) (show cb + 1 ≠ cb by omega) (.pointer (some ⟨wr.heap.size, 0, none⟩))
                    have cR := fun ob => (rR ob).cell (i := e) hek
                    have fR := fun ob => (rR ob).frozen e
                    clear rR
                    go_wp2_with fail
                    go_roundw
                    case measure => simp [intOf]; omega
                    case rel => exact ⟨e + 1, _, rfl, by omega, HST.out _⟩
                  · obtain rfl : kj = e := by omega
                    have f7 : Fr (fun _ => False) w7 wr := HP3S.out.2.1.trans' hp3.fr (fun b hb1 hb2 => by rw [HCB.out] at hb1; omega)
                    have cPR : wr.cell? ⟨PR, i * 3 + 1, none⟩ = some (.slice (some ⟨lo, 0, none⟩) nl nl) := by
                      have := f7.cell (HQ5.out.rw.p.cell (i := i * 3 + 1) (by omega)) id
                      rwa [show fp2 es i lo nl (.slice (some ⟨g3, 0, none⟩) (j + 1) cap3) (i * 3 + 1) = .slice (some ⟨lo, 0, none⟩) nl nl from by unfold fp2; rw [if_neg (by omega), if_pos rfl]] at this
                    have rL := f7.row HQ5.out.l id
                    have cL := rL.cell (i := j * 2) (by omega)
                    have fL := rL.frozen (j * 2)
                    have hne : RF ≠ lo ∧ lo + 1 ≠ lo := by have := HQ5.out.rw.o; have := HQ5.out.pc.hb; have := HQ5.out.pc.hb2; omega
                    have cRF : (wr.setCell ⟨lo, j * 2, none⟩ (.slice (some ⟨cb, 0, none⟩) kj kj)).cell? ⟨RF, i, none⟩ = some (.slice (some ⟨lo + 1, 0, none⟩) nl nl) := by
                      have := ((f7.row HQ5.out.rw.r id).setOther (a := ⟨lo, j * 2, none⟩) hne.1 (.slice (some ⟨cb, 0, none⟩) kj kj)).cell (i := i) hlt
                      rwa [show fr2 es i (lo + 1) nl i = .slice (some ⟨lo + 1, 0, none⟩) nl nl from if_pos rfl] at this
                    have rR := (f7.row HQ5.out.r id).setOther (a := ⟨lo, j * 2, none⟩) hne.2 (.slice (some ⟨cb, 0, none⟩) kj kj)
                    have cR := rR.cell (i := j) hjl
                    have fR := rR.frozen j
                    have hC := HQ5.out.stepC hjl (by rw [← HKJ.out]; exact hkj4) HP3S.out.2.1 HP3S.out.2.2 (Ej := Ej) (w1 := wr) (by rw [HCB.out, ← HKJ.out]; exact hp3)
                    rw [HCB.out, ← HKJ.out] at hC
                    obtain ⟨C', RC', E', hC'⟩ : ∃ C' RC' E', P2 w5 ((wr.setCell ⟨lo, j * 2, none⟩ (.slice (some ⟨cb, 0, none⟩) kj kj)).setCell ⟨lo + 1, j, none⟩ (.slice (some ⟨cb + 1, 0, none⟩) kj kj)) T PR RF TU LU HB lo np i (j + 1) (j + 1) (j + 1) nl es (sumW f0) (.slice (some ⟨g1, 0, none⟩) (i + 1) cap1) (.slice (some ⟨g2, 0, none⟩) (i + 1) cap2) (sumW (lwF n2 z2 i)) (kF n3 z3 i) C' RC' E' (.slice (some ⟨g3, 0, none⟩) (j + 1) cap3) (.slice (some ⟨g5, 0, none⟩) (j + 1) cap5) := ⟨_, _, _, hC⟩
                    have HC : Hid (P2 w5 ((wr.setCell ⟨lo, j * 2, none⟩ (.slice (some ⟨cb, 0, none⟩) kj kj)).setCell ⟨lo + 1, j, none⟩ (.slice (some ⟨cb + 1, 0, none⟩) kj kj)) T PR RF TU LU HB lo np i (j + 1) (j + 1) (j + 1) nl es (sumW f0) (.slice (some ⟨g1, 0, none⟩) (i + 1) cap1) (.slice (some ⟨g2, 0, none⟩) (i + 1) cap2) (sumW (lwF n2 z2 i)) (kF n3 z3 i) C' RC' E' (.slice (some ⟨g3, 0, none⟩) (j + 1) cap3) (.slice (some ⟨g5, 0, none⟩) (j + 1) cap5)) := hC'
                    clear hC hC' rL rR f7 hp3 hne
                    go_wp2_with fail
                    exact ⟨⟨j + 1, C', RC', E', _, _, by rw [prevW_succ], rfl, by omega, HC.out⟩, by simp [intOf]; omega⟩
          · obtain rfl : nl = j := by omega
            have hup : Up nl (sumW (lwF n2 z2 i)) := up_sum _ nl (by omega) (lwF_pos n2 z2 i) (lwF_le n2 z2 h2.lt i)
            obtain ⟨e, _, _, _, hp4⟩ := hp2.close hup hnl3
            have HP4 : Hid (P1 w5 wr T PR RF TU LU HB np (i + 1) (i + 1) (i + 1) (fun x => if x = i then e else es x) (sumW f0) (.slice (some ⟨g1, 0, none⟩) (i + 1) cap1) (.slice (some ⟨g2, 0, none⟩) (i + 1) cap2)) := hp4
            clear hp4 hp2 hup
            go_wp2_with fail
            exact ⟨⟨i + 1, _, _, by rw [prevW_succ], rfl, by omega, HP4.out⟩, by simp [intOf]; omega⟩
    · obtain rfl : np = i := by omega
      have HP : Hid (P1 w5 wr T PR RF TU LU HB np np np np es (sumW f0) tv u20) := hp
      clear hp hlt hi
      go_wp2_with fail
      have rBL := HP.out.fr.row HR5.out.2.2.2.1 (by have := HO.out; omega)
      refine (storeT_any (H + 1 + 1 + 1) 9 T _ _ wr (rBL.cell (i := 9) (by omega)) (rBL.frozen 9) HP.out.rw.t).mono ?_
      rintro _ _ ⟨rfl, rfl⟩
      have hsw : (wr.setCell ⟨H + 1 + 1 + 1, 9, none⟩ (.pointer (some ⟨T, 0, none⟩))).heap.size = wr.heap.size := by simp [World.setCell]
      have hst := store_new Yba.prog (((wr.setCell ⟨H + 1 + 1 + 1, 9, none⟩ (.pointer (some ⟨T, 0, none⟩))).alloc (.cells #[.int .i64 0] 3)).alloc (.cells #[.slice none 0 0] 54)) (wr.heap.size + 1 + 1) (by simp [World.setCell]) .nilFunc (.func 19) #[] #[.pointer (some ⟨wr.heap.size + 1, 0, none⟩), .pointer (some ⟨H, 0, none⟩), .pointer (some ⟨wr.heap.size, 0, none⟩)] 73
      obtain ⟨nc, HNC⟩ : ∃ nc : Nat, Hid (nc = calls % 32 + 1) := ⟨_, rfl⟩
      have htc : ((calls : Int)).tmod 32 = ((calls % 32 : Nat) : Int) := rfl
      go_wp2_with fail
      have hnc : (calls : Int) % 32 + 1 = (nc : Int) := by rw [HNC.out]; omega
      have hnc32 : nc ≤ 32 := by rw [HNC.out]; omega
      rw [hnc]
      clear hnc htc hst
      have ord : H < H + 1 ∧ H + 1 < H + 1 + 1 ∧ H + 1 + 1 < H + 1 + 1 + 1 ∧ H + 1 + 1 + 1 < T := by have := HO.out.1; omega
      have hup0 : Up np (sumW f0) := up_sum f0 np hnp8 (fun q => by rw [HF0.out]; show 1 ≤ z0 q + 1; omega) (fun q => by rw [HF0.out]; have := h0.lt q; show z0 q + 1 ≤ 256; omega)
      obtain ⟨pg, hpg⟩ : ∃ pg, 0 < np → tv.ownBlock = some pg := by
        by_cases h : 0 < np
        · obtain ⟨g, e, _⟩ := owns_us HP.out.tvo h
          exact ⟨g, fun _ => e⟩
        · exact ⟨0, fun e => absurd e h⟩
      obtain ⟨mg, hmg⟩ : ∃ mg, 0 < np → u20.ownBlock = some mg := by
        by_cases h : 0 < np
        · obtain ⟨g, e, _⟩ := owns_us HP.out.pvo h
          exact ⟨g, fun _ => e⟩
        · exact ⟨0, fun e => absurd e h⟩
      have hd4 : 0 < n4 → ∀ a, p4 = some a → a.block < H := fun hn a ha => by
        obtain ⟨b, e, hc⟩ := h4 0 hn
        rw [ha] at e; cases e
        have := block_lt_of_cell hc
        rw [add_block] at this
        omega
      have hdc : ∀ q, q < n4 → ∃ a, p4 = some a ∧ w5.cell? (a.add q) = some (.int .u64 (dz q)) := fun q hq => by
        obtain ⟨a, e, hc⟩ := h4 q hq
        refine ⟨a, e, ?_⟩
        rw [HR5.out.2.2.2.2.cell (by have := block_lt_of_cell hc; omega)]; exact hc
      obtain ⟨c, hcc⟩ : ∃ c, c = cfOf np (sumW f0) es (H + 1 + 1 + 1) T PR pg tv := ⟨_, rfl⟩
      obtain ⟨m, hmm⟩ : ∃ m, m = mdOf es RF TU LU (wr.heap.size + 1 + 1) mg u20 := ⟨_, rfl⟩
      have hA : Ap (cfOf np (sumW f0) es (H + 1 + 1 + 1) T PR pg tv) (mdOf es RF TU LU (wr.heap.size + 1 + 1) mg u20) (H + 1) (H + 1 + 1) wr.heap.size (wr.heap.size + 1) H (wr.heap.size + 3) n4 p4 := HP.out.apart ord hup0 hnp8 n4 p4 hd4 hpg hmg
      have hf1 : Z.getD 1 (.bool false) = .int .i64 0 := by rw [Array.getD_eq_getD_getElem?, hz1]; rfl
      have hS : S2 (cfOf np (sumW f0) es (H + 1 + 1 + 1) T PR pg tv) (mdOf es RF TU LU (wr.heap.size + 1 + 1) mg u20) (endW wr (H + 1 + 1 + 1) T H) (endW wr (H + 1 + 1 + 1) T H) (H + 1) (H + 1 + 1) wr.heap.size (wr.heap.size + 1) H (wr.heap.size + 3) n4 c4 p4 dz (.slice none 0 0) (.slice none 0 0) 0 0 [] [] (fun _ _ => 0) (fun _ _ => 0) :=
        HP.out.ready ord hpg hmg p4 n4 c4 Z.size dz _ HR5.out.1 HR5.out.2.1 HR5.out.2.2.1 HR5.out.2.2.2.1 hZs hf1 rfl hdc hd4
      have hML : ∀ b, b < H → ¬ Mu (cfOf np (sumW f0) es (H + 1 + 1 + 1) T PR pg tv) (mdOf es RF TU LU (wr.heap.size + 1 + 1) mg u20) (H + 1) (H + 1 + 1) wr.heap.size (wr.heap.size + 1) (wr.heap.size + 3) b := fun b hb' => mu_low HP.out (by have := HO.out; omega) (by omega) (by omega)
      rw [← hcc, ← hmm] at hA hS hML
      have HEQ : Hid (c.np = np ∧ c.BL = H + 1 + 1 + 1 ∧ c.U = sumW f0 ∧ m.RF = RF ∧ m.TU = TU ∧ m.LU = LU ∧ m.K = wr.heap.size + 1 + 1 ∧ m.mv = u20) := by
        subst hcc hmm
        exact ⟨rfl, rfl, rfl, rfl, rfl, rfl, rfl, rfl⟩
      have hEW : (((wr.setCell ⟨H + 1 + 1 + 1, 9, none⟩ (.pointer (some ⟨T, 0, none⟩))).alloc (.cells #[.int .i64 0] 3)).alloc (.cells #[.slice none 0 0] 54)).alloc (.cells #[.func (.func 19) #[] #[.pointer (some ⟨wr.heap.size + 1, 0, none⟩), .pointer (some ⟨H, 0, none⟩), .pointer (some ⟨wr.heap.size, 0, none⟩)]] 73) = endW wr (H + 1 + 1 + 1) T H := rfl
      rw [hEW]
      have HB6 : Hid (Below H w (endW wr (H + 1 + 1 + 1) T H)) := by
        have h1 := HR5.out.2.2.2.2.trans (HP.out.fr.below (fun b hb => by have := HO.out; omega) (by have := HO.out; omega))
        exact h1.trans ((endW_fr wr (H + 1 + 1 + 1) T H).below (fun b hb => by omega) (by have := h1.size; omega))
      clear hEW hcc hmm hsw rBL hf1 hdc hd4 hpg hmg hup0 ord HP
      generalize endW wr (H + 1 + 1 + 1) T H = w6 at *
      generalize wr.heap.size = X2 at *
      have HA : Hid (Ap c m (H + 1) (H + 1 + 1) X2 (X2 + 1) H (X2 + 3) n4 p4) := hA
      have HS0 : Hid (S2 c m w6 w6 (H + 1) (H + 1 + 1) X2 (X2 + 1) H (X2 + 3) n4 c4 p4 dz (.slice none 0 0) (.slice none 0 0) 0 0 [] [] (fun _ _ => 0) (fun _ _ => 0)) := hS
      have HML : Hid (∀ b, b < H → ¬ Mu c m (H + 1) (H + 1 + 1) X2 (X2 + 1) (X2 + 3) b) := hML
      clear hA hS hML
      obtain ⟨nv, HNV⟩ : ∃ nv : Int, Hid ((np : Int) = nv) := ⟨_, rfl⟩
      rw [HNV.out]
      go_loopw [39] (fun cv wr => ∃ (r : Nat) (lv1 lv2 : Value) (k : Nat) (xs : List Int) (tl : Nat → Nat → Nat), cv = .int .i64 r ∧ r ≤ nc ∧ k ≤ 2 * r ∧ xs.length ≤ 2 * r ∧ (∀ p q, tl p q ≤ r) ∧ S2 c m w6 wr (H + 1) (H + 1 + 1) X2 (X2 + 1) H (X2 + 3) n4 c4 p4 dz lv1 lv2 k k xs xs tl tl) (fun cv _ => nc - (intOf cv).toNat)
      case atStart => exact ⟨0, _, _, 0, [], _, rfl, by omega, by omega, by simp, fun _ _ => Nat.le_refl _, HS0.out⟩
      case round =>
        obtain ⟨r, lv1, lv2, k, xs, tl, rfl, hr, hk, hx, ht, hs⟩ := hrel
        by_cases hrl : r < nc
        · have hrli : (r : Int) < (nc : Int) := by omega
          have hr32 : (r : Int) < 32 := by omega
          have HS : Hid (S2 c m w6 wr (H + 1) (H + 1 + 1) X2 (X2 + 1) H (X2 + 3) n4 c4 p4 dz lv1 lv2 k k xs xs tl tl) := hs
          clear hs
          go_wp2_with fail
          have hA := HA.out
          have hMv : ∀ b, Mv (H + 1) (H + 1 + 1) lv1 b → Mu c m (H + 1) (H + 1 + 1) X2 (X2 + 1) (X2 + 3) b := fun b hb => mv_mu1 HS.out hb
          have hCA := choose_any c wr (H + 1) (H + 1 + 1) H (X2 + 3) n4 c4 k p4 dz lv1 xs tl hA.p HS.out.ic (hA.ac.sub hMv) HS.out.lr
            (fun q hq hm => by
              rcases hm with e | e | e
              · exact (hA.l q hq).2.1 e
              · exact (hA.l q hq).2.2.1 e
              · have := (HS.out.d1.ownge e.symm).1; have := (hA.l q hq).1; omega)
            (fun q hq => ⟨(hA.l q hq).1, (hA.l q hq).2.1, (hA.l q hq).2.2.1, fun e => hA.ad (e ▸ .inr (.inr (.inr (.inr (.inr ⟨q, hq, .inl rfl⟩))))), fun hn a ha e => hA.aa hn a ha (e ▸ .inr (.inr (.inr (.inr (.inr ⟨q, hq, .inl rfl⟩)))))⟩)
            HS.out.d1 (by omega) (by omega) (fun p q => by have := ht p q; omega)
          rw [HEQ.out.2.1] at hCA
          refine hCA.mono ?_
          clear hCA hMv
          rintro _ w7 ⟨res, k7, xs7, tl7, lv7, rfl, hch, hdr, hlr, hfr7, how7⟩
          have HS7 : Hid (S2 c m w6 w7 (H + 1) (H + 1 + 1) X2 (X2 + 1) H (X2 + 3) n4 c4 p4 dz lv7 lv2 k7 k xs7 xs tl7 tl) := HS.out.chosen hA hdr hlr hfr7 how7
          have HCH : Hid (Ch c n4 dz tl k xs res k7 xs7 tl7) := hch
          clear hch hdr hlr hfr7 how7 HS hA
          obtain ⟨r40, HR40⟩ : ∃ r40, Hid (r40 = Option.map (fun b => (⟨b, 0, none⟩ : Addr)) res) := ⟨_, rfl⟩
          rw [← HR40.out]
          by_cases hn0 : 0 < np
          · have hn0i : 0 < nv := by rw [← HNV.out]; omega
            have hPM := pickM_any w7 X2 (X2 + 1) H (X2 + 3) n4 c4 k p4 dz lv2 xs m.K c.np m.mg m.mv c.U HS7.out.d2 (by omega) (by omega) HS7.out.im.kk (HS7.out.im.us (by rw [HEQ.out.1]; exact hn0)) HA.out.p.up (by rw [HEQ.out.1]; exact hn0) (by rw [HEQ.out.1]; omega)
              (fun hb => HA.out.am.mg (by rw [HEQ.out.1]; exact hn0) (mv_mu2 HS7.out hb))
            rw [HEQ.out.2.2.2.2.2.2.1, HEQ.out.2.2.2.2.2.2.2] at hPM
            go_wp2_with fail
            refine hPM.mono ?_
            clear hPM
            rintro _ w8 ⟨pi, k8, xs8, lv8, rfl, hpk8, hdr8, hfr8, how8⟩
            have HS8 : Hid (S2 c m w6 w8 (H + 1) (H + 1 + 1) X2 (X2 + 1) H (X2 + 3) n4 c4 p4 dz lv7 lv8 k7 k8 xs7 xs8 tl7 tl) := HS7.out.picked HA.out hdr8 hfr8 how8
            have hpic : pi < c.np := hpk8.lt
            have hpi : pi < np := by rw [← HEQ.out.1]; exact hpic
            have hpii : (pi : Int) < (np : Int) := by omega
            have hpi8 : (pi : Int) < 8 := by omega
            have hln8 := hpk8.len
            have HPK8 : Hid (Pk c.U c.np n4 dz k xs pi k8 xs8) := hpk8
            clear hpk8 hdr8 hfr8 how8 HS7
            have cRF : w8.cell? ⟨RF, pi, none⟩ = some (.slice (some ⟨m.R pi, 0, none⟩) (c.nl pi) (c.nl pi)) := by
              have := HS8.out.im.rf pi hpic
              rwa [HEQ.out.2.2.2.1] at this
            obtain ⟨nl, hnl⟩ : ∃ nl, c.nl pi = nl := ⟨_, rfl⟩
            rw [hnl] at cRF
            have HNL : Hid (c.nl pi = nl) := hnl
            have hnl1000 : nl < 1000 := by rw [← hnl]; exact HA.out.p.nl pi hpic
            clear hnl
            by_cases hnl0 : 0 < nl
            · have hnl0i : (0 : Int) < (nl : Int) := by omega
              have hnl0b : decide ((0 : Int) < (nl : Int)) = true := decide_eq_true hnl0i
              have cLU : w8.cell? ⟨LU, pi, none⟩ = some (m.um pi) := by
                have := HS8.out.im.lu pi hpic
                rwa [HEQ.out.2.2.2.2.2.1] at this
              have hPN := pickM_any w8 X2 (X2 + 1) H (X2 + 3) n4 c4 k8 p4 dz lv8 xs8 m.K (c.nl pi) (m.mug pi) (m.um pi) (c.lU pi) HS8.out.d2 (by omega) (by omega) HS8.out.im.kk (HS8.out.im.lus pi hpic (by rw [HNL.out]; exact hnl0)) (HA.out.p.lup pi hpic) (by rw [HNL.out]; exact hnl0) (by rw [HNL.out]; exact hnl1000)
                (fun hb => HA.out.am.mug pi hpic (by rw [HNL.out]; exact hnl0) (mv_mu2 HS8.out hb))
              rw [HEQ.out.2.2.2.2.2.2.1] at hPN
              go_wp2_with fail
              refine hPN.mono ?_
              clear hPN cLU cRF
              rintro _ w9 ⟨li, k9, xs9, lv9, rfl, hpk9, hdr9, hfr9, how9⟩
              have HS9 : Hid (S2 c m w6 w9 (H + 1) (H + 1 + 1) X2 (X2 + 1) H (X2 + 3) n4 c4 p4 dz lv7 lv9 k7 k9 xs7 xs9 tl7 tl) := HS8.out.picked HA.out hdr9 hfr9 how9
              have hlic : li < c.nl pi := hpk9.lt
              have hli : li < nl := by rw [← HNL.out]; exact hlic
              have hlii : (li : Int) < (nl : Int) := by omega
              have hli8 : (li : Int) < 1000 := by omega
              have hln9 := hpk9.len
              have HPK9 : Hid (Pk (c.lU pi) (c.nl pi) n4 dz k8 xs8 li k9 xs9) := hpk9
              clear hpk9 hdr9 hfr9 how9 HS8
              have cRF : w9.cell? ⟨RF, pi, none⟩ = some (.slice (some ⟨m.R pi, 0, none⟩) nl nl) := by
                have := HS9.out.im.rf pi hpic
                rwa [HEQ.out.2.2.2.1, HNL.out] at this
              have cR : w9.cell? ⟨m.R pi, li, none⟩ = some (.slice (some ⟨m.RC pi li, 0, none⟩) (c.k pi li) (c.k pi li)) := HS9.out.im.r pi li hpic hlic
              have cTU : w9.cell? ⟨TU, pi, none⟩ = some (.slice (some ⟨m.Tn pi, 0, none⟩) nl nl) := by
                have := HS9.out.im.tu pi hpic
                rwa [HEQ.out.2.2.2.2.1, HNL.out] at this
              have rTn := HS9.out.tr pi hpic
              have cTn : w9.cell? ⟨m.Tn pi, li, none⟩ = some (.int .u64 (tl pi li : Nat)) := rTn.cell (i := li) hlic
              have fTn := rTn.frozen li
              obtain ⟨kk, hkk⟩ : ∃ kk, c.k pi li = kk := ⟨_, rfl⟩
              have hkb := HA.out.p.k pi li hpic hlic
              obtain ⟨tt, htt⟩ : ∃ tt, tl pi li = tt := ⟨_, rfl⟩
              have httb : (tt : Int) ≤ 32 := by have := ht pi li; omega
              have cRC := HS9.out.im.rc pi li (tt % kk) hpic hlic (by rw [hkk]; exact Nat.mod_lt _ (by omega))
              rw [hkk] at cR hkb
              rw [htt] at cTn
              have hkm : tt % kk < kk := Nat.mod_lt _ hkb.1
              have htm : ((tt : Int)).tmod (kk : Int) = ((tt % kk : Nat) : Int) := rfl
              have hkmi : ((tt % kk : Nat) : Int) < (kk : Int) := by omega
              have hkki : ¬ (kk : Int) = 0 := by omega
              have hkkn : ¬ kk = 0 := by omega
              have hkku : (kk : Int) < 1000 := by omega
              have hwk : IntKind.u64.wrap (kk : Int) = (kk : Int) := by rw [IntKind.wrap_u64]; omega
              have HTK : Hid (c.k pi li = kk ∧ tl pi li = tt) := ⟨hkk, htt⟩
              clear hkk htt rTn
              obtain ⟨h1, h2', h3', h4'⟩ := HCH.out.unique (.inr ⟨by rw [HEQ.out.1]; exact hn0, pi, k8, xs8, HPK8.out, .inr ⟨by rw [HNL.out]; exact hnl0, li, HPK9.out, rfl, rfl⟩⟩)
              have h40 : r40 = some ⟨c.E pi li (tt % kk), 0, none⟩ := by rw [HR40.out, h1, HTK.out.1, HTK.out.2]; rfl
              subst h40 h2' h3' h4'
              have HS10 : Hid (S2 c m w6 (w9.setCell ⟨m.Tn pi, li, none⟩ (.int .u64 ((tt : Int) + 1))) (H + 1) (H + 1 + 1) X2 (X2 + 1) H (X2 + 3) n4 c4 p4 dz lv7 lv9 k7 k7 xs7 xs7 (bump tl pi li) (bump tl pi li)) := by
                have := HS9.out.turned HA.out hpic hlic
                rw [HTK.out.2] at this
                exact this
              clear HS9
              obtain ⟨j104, hj104⟩ : ∃ j, Yba.prog.info? 104 = some j := Option.isSome_iff_exists.1 (by kernel_rfl)
              have hneq := fun wx => Lib.run_neq_ptr_same (P := Yba.prog) (w := wx) ⟨c.E pi li (tt % kk), 0, none⟩ Yba.underlying100 hj104
              clear hj104
              go_wp2_with fail
              go_roundw
              case measure => simp [intOf]; omega
              case rel => exact ⟨r + 1, _, _, _, _, _, rfl, by omega, by omega, by omega, fun p q => by have := ht p q; unfold bump; split <;> omega, HS10.out⟩
            · have hnl0i : ¬ (0 : Int) < (nl : Int) := by omega
              have hnl0b : decide ((0 : Int) < (nl : Int)) = false := decide_eq_false hnl0i
              obtain ⟨h1, h2', h3', h4'⟩ := HCH.out.unique (.inr ⟨by rw [HEQ.out.1]; exact hn0, pi, k8, xs8, HPK8.out, .inl ⟨by rw [HNL.out]; omega, rfl, rfl, rfl, rfl⟩⟩)
              have h40 : r40 = none := by rw [HR40.out, h1]; rfl
              subst h40 h2' h3' h4'
              go_wp2_with fail
              go_roundw
              case measure => simp [intOf]; omega
              case rel => exact ⟨r + 1, _, _, _, _, _, rfl, by omega, by omega, by omega, fun p q => by have := ht p q; omega, HS8.out⟩
          · have hn0i : ¬ 0 < nv := by rw [← HNV.out]; omega
            have hn0b : decide (0 < nv) = false := decide_eq_false hn0i
            obtain ⟨h1, h2', h3', h4'⟩ := HCH.out.unique (.inl ⟨by rw [HEQ.out.1]; omega, rfl, rfl, rfl, rfl⟩)
            have h40 : r40 = none := by rw [HR40.out, h1]; rfl
            subst h40 h2' h3' h4'
            go_wp2_with fail
            go_roundw
            case measure => simp [intOf]; omega
            case rel => exact ⟨r + 1, _, _, _, _, _, rfl, by omega, by omega, by omega, fun p q => by have := ht p q; omega, HS7.out⟩
        · obtain rfl : nc = r := by omega
          have cG1 : wr.cell? ⟨H + 1 + 1, 0, none⟩ = some lv1 := hs.d1.dw.g.cell (i := 0) (by omega)
          have cG2 : wr.cell? ⟨X2 + 1, 0, none⟩ = some lv2 := hs.d2.dw.g.cell (i := 0) (by omega)
          have hSA := same_any wr (X2 + 3) (X2 + 3) lv1 lv2 xs (by omega) hs.d1.dw.own hs.d2.dw.own
          have HB7 : Hid (Below H w wr) := HB6.out.trans (hs.fr.below HML.out (by have := HB6.out.size; omega))
          clear hs
          go_wp2_with fail
          refine hSA.mono ?_
          clear hSA
          rintro _ wz ⟨rfl, hfz⟩
          have HB8 : Hid (Below H w wz) := HB7.out.trans (hfz.below (fun _ _ => id) (by have := HB7.out.size; omega))
          clear hfz
          go_wp2_with fail
          go_ret
          exact ⟨rfl, by rw [hb]; exact HB8.out⟩

end Go.Proofs.Ybulkbdbe
