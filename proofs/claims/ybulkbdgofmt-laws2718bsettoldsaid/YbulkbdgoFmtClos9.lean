import Derived.Test.YbulkbdgoFmtVal
namespace Go.Proofs.YbulkbdgoFmt
open Go.RowKit Go.Deep
set_option linter.unusedVariables false

theorem pick9 (P C K : Nat) (k n : Nat) (hk : k < 5) (hn : n < 10) (w : World) (hP : P < w.heap.size) (hC : w.rowIs C 3 1 (fun _ => .int .i64 n)) (hK : w.cell? ⟨K, 0, .none⟩ = some (.int .i64 k)) (hne : K ≠ C) :
    Calls Ybaf.prog 9 #[.pointer (some ⟨P, 0, .none⟩), .pointer (some ⟨C, 0, .none⟩), .pointer (some ⟨K, 0, .none⟩)] w fun e w' => e = .returned (.pointer (some ⟨P, k + 1, .none⟩)) ∧ w' = w.setCell ⟨C, 0, .none⟩ (.int .i64 (n + 1 : Nat)) := by
  have c0 := hC.cell (i := 0) (by omega)
  have f0 := hC.frozen 0
  have hb : (n : Int) < 10 := by omega
  have en : ((n + 1 : Nat) : Int) = (n : Int) + 1 := by omega
  rw [en]
  clear en
  have hK2 : (w.setCell ⟨C, 0, .none⟩ (.int .i64 ((n : Int) + 1))).cell? ⟨K, 0, .none⟩ = some (.int .i64 k) := by
    rw [World.cell?_of_block (w := w) (Below.heap_setCell w _ _ K hne)]; exact hK
  have hP2 : P < (w.setCell ⟨C, 0, .none⟩ (.int .i64 ((n : Int) + 1))).heap.size := by simpa using hP
  go_enter Ybaf.func9, Ybaf.ntmps9
  go_wp2_with fail
  refine (pick_any P k hk _ hP2).mono ?_
  rintro e w' ⟨rfl, rfl⟩
  go_wp2
  go_ret
  exact ⟨rfl, rfl⟩

structure Lt (w0 : World) (K P E L F C k n : Nat) (lim : Int) (nm : ByteArray) (f : Nat → Value) (g : Nat → List UInt8) (w : World) : Prop where
  below : Below w0.heap.size w0 w
  base : w0.heap.size ≤ P
  baseC : w0.heap.size ≤ C
  row : w.rowIs P 26 22 f
  cb : f 0 = .string ⟨#[98]⟩
  fv : ∀ i, i < 5 → FV w P (f (i + 1)) (g i) ∧ FV w C (f (i + 1)) (g i)
  cC : w.rowIs C 3 1 (fun _ => .int .i64 n)
  cK : w.cell? ⟨K, 0, .none⟩ = some (.int .i64 k)
  cE0 : w.cell? ⟨E, 0, .none⟩ = some (.string nm)
  cE1 : w.cell? ⟨E, 1, .none⟩ = some (.func (.func 19) #[] #[.pointer (some ⟨L, 0, .none⟩), .pointer (some ⟨F, 0, .none⟩)])
  cE2 : w.cell? ⟨E, 2, .none⟩ = some (.func (.func 21) #[] #[.pointer (some ⟨F, 0, .none⟩)])
  cL : w.cell? ⟨L, 0, .none⟩ = some (.int .i64 lim)
  cF : w.cell? ⟨F, 0, .none⟩ = some (.func (.func 9) #[] #[.pointer (some ⟨C, 0, .none⟩), .pointer (some ⟨K, 0, .none⟩)])
  nK : K ≠ P ∧ K ≠ C
  nE : E ≠ P ∧ E ≠ C
  nL : L ≠ P ∧ L ≠ C
  nF : F ≠ P ∧ F ≠ C
  nC : C ≠ P

variable {w0 w w' : World} {K P E L F C k n : Nat} {lim : Int} {nm : ByteArray} {f : Nat → Value} {g : Nat → List UInt8}

theorem Lt.next (h : Lt w0 K P E L F C k n lim nm f g w) (hb : Below w.heap.size w w') : Lt w0 K P E L F C k n lim nm f g w' := by
  have c : ∀ (a : Addr) v, w.cell? a = some v → w'.cell? a = some v := fun a v ha => by rw [hb.cell (block_lt_of_cell ha)]; exact ha
  exact ⟨h.below.trans (hb.mono h.below.size), h.base, h.baseC, h.row.of_block (hb.block _ h.row.lt), h.cb, fun i hi => ⟨(h.fv i hi).1.below hb, (h.fv i hi).2.below hb⟩, h.cC.of_block (hb.block _ h.cC.lt), c _ _ h.cK, c _ _ h.cE0, c _ _ h.cE1, c _ _ h.cE2, c _ _ h.cL, c _ _ h.cF, h.nK, h.nE, h.nL, h.nF, h.nC⟩

theorem FV.setFar {w : World} {P Q o : Nat} {v u : Value} {l : List UInt8} (h : FV w P v l) (hq : FV w Q v l) : FV (w.setCell ⟨Q, o, .none⟩ u) P v l := by
  rcases h with h | ⟨b, c, q1, q2, q3, q4⟩
  · exact .inl h
  · rcases hq with ⟨q, _⟩ | ⟨b', c', r1, r2, _, _⟩
    · rw [q] at q1; cases q1
    · rw [q1] at r1; cases r1
      refine .inr ⟨b, c, q1, q2, by simpa using q3, fun i hi => ?_⟩
      rw [World.cell?_of_block (w := w) (Below.heap_setCell w _ u b r2)]
      exact q4 i hi

theorem Lt.put (h : Lt w0 K P E L F C k n lim nm f g w) (hk : k < 5) {v : Value} {l : List UInt8} (hv : FV w P v l) (hv2 : FV w C v l) : Lt w0 K P E L F C k n lim nm (fun j => if j = k + 1 then v else f j) (fun i => if i = k then l else g i) (w.setCell ⟨P, k + 1, .none⟩ v) := by
  have c : ∀ (a : Addr) u, a.block ≠ P → w.cell? a = some u → (w.setCell ⟨P, k + 1, .none⟩ v).cell? a = some u := fun a u hne ha => by
    rw [World.cell?_of_block (w := w) (Below.heap_setCell w _ v a.block hne)]; exact ha
  refine ⟨h.below.setCell h.base v, h.base, h.baseC, h.row.set _ _, by rw [if_neg (by omega)]; exact h.cb, fun i hi => ?_, h.cC.setOther h.nC _, c _ _ h.nK.1 h.cK, c _ _ h.nE.1 h.cE0, c _ _ h.nE.1 h.cE1, c _ _ h.nE.1 h.cE2, c _ _ h.nL.1 h.cL, c _ _ h.nF.1 h.cF, h.nK, h.nE, h.nL, h.nF, h.nC⟩
  by_cases e : i = k
  · subst e
    simp only [if_pos]
    exact ⟨hv.setOther, hv2.setFar hv⟩
  · rw [if_neg (by omega), if_neg e]
    exact ⟨(h.fv i hi).1.setOther, (h.fv i hi).2.setFar (h.fv i hi).1⟩

theorem Lt.bump (h : Lt w0 K P E L F C k n lim nm f g w) : Lt w0 K P E L F C k (n + 1) lim nm f g (w.setCell ⟨C, 0, .none⟩ (.int .i64 (n + 1 : Nat))) := by
  have c : ∀ (a : Addr) u, a.block ≠ C → w.cell? a = some u → (w.setCell ⟨C, 0, .none⟩ (.int .i64 (n + 1 : Nat))).cell? a = some u := fun a u hne ha => by
    rw [World.cell?_of_block (w := w) (Below.heap_setCell w _ _ a.block hne)]; exact ha
  refine ⟨h.below.setCell h.baseC _, h.base, h.baseC, h.row.setOther (Ne.symm h.nC) _, h.cb, fun i hi => ⟨(h.fv i hi).1.setFar (h.fv i hi).2, (h.fv i hi).2.setOther⟩, (h.cC.set 0 _).congr fun i hi => by rw [if_pos (by omega)], c _ _ h.nK.2 h.cK, c _ _ h.nE.2 h.cE0, c _ _ h.nE.2 h.cE1, c _ _ h.nE.2 h.cE2, c _ _ h.nL.2 h.cL, c _ _ h.nF.2 h.cF, h.nK, h.nE, h.nL, h.nF, h.nC⟩

theorem Lt.fs (h : Lt w0 K P E L F C k n lim nm f g w) : Fs w P (fun i => f (i + 1)) g :=
  ⟨by rw [h.row.cell (by omega), h.cb], fun i hi => ⟨h.row.cell (by omega), (h.fv i hi).1⟩⟩

theorem Lt.bs (h : Lt w0 K P E L F C k n lim nm f g w) {v : Value} {l : List UInt8} (hb : Bs w0 v l) : Bs w v l := hb.below h.below

set_option maxHeartbeats 800000 in
theorem set_some9 (s : ByteArray) (te : TypeId) (ve : Value) (l : List UInt8) (h : Lt w0 K P E L F C k n lim nm f g w) (hn : n < 10) (hk : k < 5) (hp : parse s.data.toList lim = some l) (hE : w.cell? ⟨0, 0, .none⟩ = some (.iface te ve)) (hs : s.size ≤ 4096) :
    Calls Ybaf.prog 19 #[.pointer (some ⟨P, 0, .none⟩), .string s, .pointer (some ⟨L, 0, .none⟩), .pointer (some ⟨F, 0, .none⟩)] w fun e w' => e = .returned .nilIface ∧ ∃ v, Lt w0 K P E L F C k (n + 1) lim nm (fun j => if j = k + 1 then v else f j) (fun i => if i = k then l else g i) w' ∧ ∀ b, b < w.heap.size → b ≠ P → b ≠ C → w'.heap[b]? = w.heap[b]? := by
  have hL := h.cL
  go_enter Ybaf.func19, Ybaf.ntmps19
  go_wp2_with fail
  refine (parse_some s lim te ve w l hp hE hs).mono ?_
  rintro e w2 ⟨v, rfl, hb, hf⟩
  obtain ⟨p, m, c, rfl⟩ := (hf _ (.inl (Nat.le_refl _))).slice
  have h2 := h.next hb
  have hF2 := h2.cF
  have fP := hf P (.inr h.row.lt)
  have fC := hf C (.inr h.cC.lt)
  have h3 := h2.bump
  have fP3 := fP.setFar (o := 0) (u := .int .i64 (n + 1 : Nat)) fC
  have fC3 : FV (w2.setCell ⟨C, 0, .none⟩ (.int .i64 (n + 1 : Nat))) C (.slice p m c) l := fC.setOther
  have HC : Hid (Calls Ybaf.prog 9 #[.pointer (some ⟨P, 0, .none⟩), .pointer (some ⟨C, 0, .none⟩), .pointer (some ⟨K, 0, .none⟩)] w2 fun e w' => e = .returned (.pointer (some ⟨P, k + 1, .none⟩)) ∧ w' = w2.setCell ⟨C, 0, .none⟩ (.int .i64 (n + 1 : Nat))) := pick9 P C K k n hk hn w2 h2.row.lt h2.cC h2.cK h2.nK.2
  have HL : Hid (Lt w0 K P E L F C k (n + 1) lim nm f g (w2.setCell ⟨C, 0, .none⟩ (.int .i64 (n + 1 : Nat)))) := h3
  have HV : Hid (FV (w2.setCell ⟨C, 0, .none⟩ (.int .i64 (n + 1 : Nat))) P (.slice p m c) l ∧ FV (w2.setCell ⟨C, 0, .none⟩ (.int .i64 (n + 1 : Nat))) C (.slice p m c) l) := ⟨fP3, fC3⟩
  have HFr : Hid (∀ b, b < w.heap.size → b ≠ C → (w2.setCell ⟨C, 0, .none⟩ (.int .i64 (n + 1 : Nat))).heap[b]? = w.heap[b]?) := fun b hbs hne => by
    rw [Below.heap_setCell w2 _ _ b hne]; exact hb.block b hbs
  clear hp hE hs hL hb hf h h2 fP fC fP3 fC3 h3
  go_wp2_with fail
  refine HC.out.mono ?_
  rintro e w3 ⟨rfl, hw3⟩
  rw [← hw3] at HL HV HFr
  clear hw3 HC
  have cP := HL.out.row.cell (i := k + 1) (by omega)
  have zP := HL.out.row.frozen (k + 1)
  go_wp2
  go_ret
  exact ⟨rfl, _, HL.out.put hk HV.out.1 HV.out.2, fun b hb hP hC => by rw [Below.heap_setCell _ _ _ b hP]; exact HFr.out b hb hC⟩

theorem text9 (l : List UInt8) (h : Lt w0 K P E L F C k n lim nm f g w) (hn : n < 10) (hk : k < 5) (hg : g k = l) (hl : l.length ≤ 4096) :
    Calls Ybaf.prog 21 #[.pointer (some ⟨P, 0, .none⟩), .pointer (some ⟨F, 0, .none⟩)] w fun e w' => e = .returned (.string ⟨(Lib.Hx.encode l).toArray⟩) ∧ Lt w0 K P E L F C k (n + 1) lim nm f g w' := by
  have hF := h.cF
  have HC : Hid (Calls Ybaf.prog 9 #[.pointer (some ⟨P, 0, .none⟩), .pointer (some ⟨C, 0, .none⟩), .pointer (some ⟨K, 0, .none⟩)] w fun e w' => e = .returned (.pointer (some ⟨P, k + 1, .none⟩)) ∧ w' = w.setCell ⟨C, 0, .none⟩ (.int .i64 (n + 1 : Nat))) := pick9 P C K k n hk hn w h.row.lt h.cC h.cK h.nK.2
  have HL : Hid (Lt w0 K P E L F C k (n + 1) lim nm f g (w.setCell ⟨C, 0, .none⟩ (.int .i64 (n + 1 : Nat)))) := h.bump
  clear h
  go_enter Ybaf.func21, Ybaf.ntmps21
  go_wp2_with fail
  refine HC.out.mono ?_
  rintro e w3 ⟨rfl, hw3⟩
  rw [← hw3] at HL
  clear hw3 HC hF
  have hP := HL.out.row.cell (i := k + 1) (by omega)
  have hv := (HL.out.fv k hk).1
  rw [hg] at hv
  generalize f (k + 1) = v at hP hv
  have hc : Calls Ybaf.prog 22 #[v] w3 fun e w' => e = .returned (.string ⟨(Lib.Hx.encode l).toArray⟩) ∧ Below w3.heap.size w3 w' := by
    rcases hv with ⟨rfl, rfl⟩ | ⟨b, c, rfl, h2, h3, h4⟩
    · exact Ybaf.hex_EncodeToString_nil w3
    · have := Ybaf.hex_EncodeToString b 0 l.length c (zs l) w3 (zs_length l) (fun i hi => zs_range l i hi) h4 h3 (by omega)
      rw [zs_bytes] at this
      exact this
  have HQ : Hid (Calls Ybaf.prog 22 #[v] w3 fun e w' => e = .returned (.string ⟨(Lib.Hx.encode l).toArray⟩) ∧ Below w3.heap.size w3 w') := hc
  obtain ⟨p, m, c, rfl⟩ := hv.slice
  clear hc hv
  go_wp2_with fail
  refine HQ.out.mono ?_
  rintro e w4 ⟨rfl, hb4⟩
  have HL4 : Hid (Lt w0 K P E L F C k (n + 1) lim nm f g w4) := HL.out.next hb4
  clear HL hb4
  go_wp2
  go_ret
  exact ⟨rfl, HL4.out⟩

end Go.Proofs.YbulkbdgoFmt
