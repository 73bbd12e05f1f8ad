import Derived.Test.YbulkbdbeInner
namespace Go.Proofs.Ybulkbdbe
open Go.RowKit Go.Deep
set_option linter.unusedVariables false

def rowE (E : Nat → Nat) (e q : Nat) : Value := if q < e then .pointer (some ⟨E q, 0, none⟩) else .pointer none

/-- a locality's two rows of endpoints, the first e laid -/
structure P3 (wa w : World) (Cb Rb k e : Nat) (E : Nat → Nat) : Prop where
  fr : Fr (fun b => b = Cb ∨ b = Rb) wa w
  c : w.rowIs Cb 100 k (rowE E e)
  r : w.rowIs Rb 100 k (rowE E e)
  ne : Cb ≠ Rb

section
variable {w5 wa w w1 : World} {T PR RF TU LU HB lo np i j iu im nl Cb Rb kj e : Nat} {es : Nat → En} {U : Nat → Nat} {tv pv : Value} {lU k C RC : Nat → Nat} {E : Nat → Nat → Nat} {Ej : Nat → Nat} {uv um : Value}

theorem P3.start (w : World) (k : Nat) (E : Nat → Nat) : P3 ((w.alloc (.cells (madeCells #[.pointer none] k) 100)).alloc (.cells (madeCells #[.pointer none] k) 100)) ((w.alloc (.cells (madeCells #[.pointer none] k) 100)).alloc (.cells (madeCells #[.pointer none] k) 100)) w.heap.size (w.heap.size + 1) k 0 E := by
  refine ⟨Fr.refl _ _, ((World.rowIs_made w (.pointer none) k 100).alloc _).congr fun q hq => by unfold rowE; rw [if_neg (by omega)], ?_, by omega⟩
  have := World.rowIs_made (w.alloc (.cells (madeCells #[.pointer none] k) 100)) (.pointer none) k 100
  refine World.rowIs.congr (f := fun _ => .pointer none) (by simpa using this) fun q hq => by unfold rowE; rw [if_neg (by omega)]

theorem P3.step (h : P3 wa w Cb Rb kj e Ej) (f : Fr (fun _ => False) w w1) (b : Nat) : P3 wa ((w1.setCell ⟨Cb, e, none⟩ (.pointer (some ⟨b, 0, none⟩))).setCell ⟨Rb, e, none⟩ (.pointer (some ⟨b, 0, none⟩))) Cb Rb kj (e + 1) (fun q => if q = e then b else Ej q) := by
  have key : ∀ q, (if q = e then Value.pointer (some ⟨b, 0, none⟩) else rowE Ej e q) = rowE (fun q => if q = e then b else Ej q) (e + 1) q := fun q => by
    unfold rowE
    dsimp only
    by_cases e1 : q = e
    · subst e1; rw [if_pos rfl, if_pos (by omega), if_pos rfl]
    · simp only [if_neg e1]
      by_cases e2 : q < e
      · rw [if_pos e2, if_pos (by omega)]
      · rw [if_neg e2, if_neg (by omega)]
  refine ⟨((h.fr.trans' f (fun _ _ e => e.elim)).setCell (p := ⟨Cb, e, none⟩) (.inl rfl) _).setCell (p := ⟨Rb, e, none⟩) (.inr rfl) _, ?_, ?_, h.ne⟩
  · exact (((f.row h.c id).set e _).setOther (a := ⟨Rb, e, none⟩) h.ne _).congr fun q _ => key q
  · exact (((f.row h.r id).setOther (a := ⟨Cb, e, none⟩) (Ne.symm h.ne) _).set e _).congr fun q _ => key q

/-- a locality is done -/
theorem P2.stepC (h : P2 w5 w T PR RF TU LU HB lo np i j (j + 1) (j + 1) nl es U tv pv lU k C RC E uv um) (hj : j < nl) (hk : 0 < k j ∧ k j ≤ 4) (f : Fr (fun _ => False) w wa) (hs : wa.heap.size = w.heap.size + 2)
    (p : P3 wa w1 w.heap.size (w.heap.size + 1) (k j) (k j) Ej) :
    P2 w5 ((w1.setCell ⟨lo, j * 2, none⟩ (.slice (some ⟨w.heap.size, 0, none⟩) (k j) (k j))).setCell ⟨lo + 1, j, none⟩ (.slice (some ⟨w.heap.size + 1, 0, none⟩) (k j) (k j))) T PR RF TU LU HB lo np i (j + 1) (j + 1) (j + 1) nl es U tv pv lU k
      (fun a => if a = j then w.heap.size else C a) (fun a => if a = j then w.heap.size + 1 else RC a) (fun a => if a = j then Ej else E a) uv um := by
  have ha := h.alloc f
  have o1 := h.rw.o
  have b1 := h.pc.hb
  have b2 := h.pc.hb2
  have z1 := h.sz
  have ps := p.fr.size
  -- both stores, as one frame
  have f1 : Fr (fun b => (b = w.heap.size ∨ b = w.heap.size + 1) ∨ b = lo ∨ b = lo + 1) wa ((w1.setCell ⟨lo, j * 2, none⟩ (.slice (some ⟨w.heap.size, 0, none⟩) (k j) (k j))).setCell ⟨lo + 1, j, none⟩ (.slice (some ⟨w.heap.size + 1, 0, none⟩) (k j) (k j))) :=
    ((p.fr.mono (fun b _ m => Or.inl m)).setCell (p := ⟨lo, j * 2, none⟩) (.inr (.inl rfl)) _).setCell (p := ⟨lo + 1, j, none⟩) (.inr (.inr rfl)) _
  have hsz := f1.size
  have own1 : ∀ b, uv.ownBlock = some b → lo + 3 ≤ b ∧ b < w.heap.size := fun b hb => h.uvo.lt b hb
  have own2 : ∀ b, um.ownBlock = some b → lo + 3 ≤ b ∧ b < w.heap.size := fun b hb => h.umo.lt b hb
  refine ⟨ha.pc.next f1 (fun b m => by omega), ha.rw.next f1 (fun b _ _ m => by omega), by omega, ?_, ?_, ?_, ?_, ?_, h.uo, ?_, ?_, ?_, ?_⟩
  · refine ((((p.fr.row ha.l (by omega)).set (j * 2) _)).setOther (a := ⟨lo + 1, j, none⟩) (by simp) _).congr fun q hq => ?_
    unfold rowL
    dsimp only
    by_cases e1 : q = j * 2
    · subst e1
      rw [if_pos rfl, if_pos (by omega), if_pos (by omega), show j * 2 / 2 = j by omega, if_pos rfl]
    · rw [if_neg e1]
      by_cases e2 : q % 2 = 0
      · rw [if_pos e2, if_pos e2]
        by_cases e3 : q / 2 < j
        · rw [if_pos e3, if_pos (by omega), if_neg (by omega)]
        · rw [if_neg e3, if_neg (by omega)]
      · rw [if_neg e2, if_neg e2]
  · refine ((((p.fr.row ha.r (by omega)).setOther (a := ⟨lo, j * 2, none⟩) (by simp) _)).set j _).congr fun q hq => ?_
    unfold rowR
    dsimp only
    by_cases e1 : q = j
    · subst e1; rw [if_pos rfl, if_pos (by omega), if_pos rfl]
    · simp only [if_neg e1]
      by_cases e3 : q < j
      · rw [if_pos e3, if_pos (by omega)]
      · rw [if_neg e3, if_neg (by omega)]
  · exact f1.row ha.t (by omega)
  · exact f1.owns ha.uvo (fun b hb m => by have := own1 b hb; omega)
  · exact f1.owns ha.umo (fun b hb m => by have := own2 b hb; omega)
  · intro a haj
    by_cases e1 : a = j
    · subst e1; exact hk
    · exact h.kk a (by omega)
  · intro a q haj hq
    by_cases e1 : a = j
    · subst e1
      simp only [if_pos]
      have : ((w1.setCell ⟨lo, a * 2, none⟩ (.slice (some ⟨w.heap.size, 0, none⟩) (k a) (k a))).setCell ⟨lo + 1, a, none⟩ (.slice (some ⟨w.heap.size + 1, 0, none⟩) (k a) (k a))).rowIs w.heap.size 100 (k a) (rowE Ej (k a)) :=
        (p.c.setOther (a := ⟨lo, a * 2, none⟩) (by simp; omega) _).setOther (a := ⟨lo + 1, a, none⟩) (by simp; omega) _
      rw [this.cell hq]; unfold rowE; rw [if_pos hq]
    · simp only [if_neg e1]
      have hc := h.cb a (by omega)
      exact f1.cell (ha.cs a q (by omega) hq) (fun m => by simp at m; omega)
  · intro a q haj hq
    by_cases e1 : a = j
    · subst e1
      simp only [if_pos]
      have : ((w1.setCell ⟨lo, a * 2, none⟩ (.slice (some ⟨w.heap.size, 0, none⟩) (k a) (k a))).setCell ⟨lo + 1, a, none⟩ (.slice (some ⟨w.heap.size + 1, 0, none⟩) (k a) (k a))).rowIs (w.heap.size + 1) 100 (k a) (rowE Ej (k a)) :=
        (p.r.setOther (a := ⟨lo, a * 2, none⟩) (by simp; omega) _).setOther (a := ⟨lo + 1, a, none⟩) (by simp; omega) _
      rw [this.cell hq]; unfold rowE; rw [if_pos hq]
    · simp only [if_neg e1]
      have hc := h.cb a (by omega)
      exact f1.cell (ha.rc a q (by omega) hq) (fun m => by simp at m; omega)
  · intro a haj
    by_cases e1 : a = j
    · simp only [if_pos e1]
      refine ⟨⟨by omega, by omega, fun m => ?_, fun m => ?_⟩, by omega, by omega, fun m => ?_, fun m => ?_⟩
      · have := (own1 _ m).2; omega
      · have := (own2 _ m).2; omega
      · have := (own1 _ m).2; omega
      · have := (own2 _ m).2; omega
    · simp only [if_neg e1]
      have hc := h.cb a (by omega)
      exact ⟨⟨hc.1.1, by omega, hc.1.2.2⟩, hc.2.1, by omega, hc.2.2.2⟩

/-- a priority is done -/
theorem P2.close (h : P2 w5 w T PR RF TU LU HB lo np i nl nl nl nl es U tv pv lU k C RC E uv um) (hup : Up nl lU) (hn3 : nl ≤ 3) : ∃ e : En, e.nl = nl ∧ e.lU = lU ∧ e.k = k ∧ P1 w5 w T PR RF TU LU HB np (i + 1) (i + 1) (i + 1) (fun x => if x = i then e else es x) U tv pv := by
  have z1 := h.sz
  have b1 := h.pc.hb
  obtain ⟨ug, hug⟩ : ∃ ug, 0 < nl → Us w uv nl ug lU ∧ lo + 3 ≤ ug ∧ ug < w.heap.size := by
    by_cases h0 : 0 < nl
    · obtain ⟨g, _, g2, g3, g4⟩ := owns_us h.uvo h0
      exact ⟨g, fun _ => ⟨g4, g2, g3⟩⟩
    · exact ⟨0, fun q => absurd q h0⟩
  obtain ⟨mug, hmug⟩ : ∃ ug, 0 < nl → Us w um nl ug lU ∧ lo + 3 ≤ ug ∧ ug < w.heap.size := by
    by_cases h0 : 0 < nl
    · obtain ⟨g, _, g2, g3, g4⟩ := owns_us h.umo h0
      exact ⟨g, fun _ => ⟨g4, g2, g3⟩⟩
    · exact ⟨0, fun q => absurd q h0⟩
  obtain ⟨en, hen⟩ : ∃ en : En, en = ⟨nl, lU, k, E, lo, lo + 1, lo + 2, ug, mug, C, RC, uv, um, lo, w.heap.size⟩ := ⟨_, rfl⟩
  have hok : en.Ok w := by
    subst hen
    refine ⟨hn3, hup, h.kk, h.l.congr fun q hq => ?_, h.t, fun a ha => ?_, h.cs, h.rc, fun q => (hug q).1, fun q => (hmug q).1, ⟨Nat.le_refl _, by simp; omega⟩, ⟨by simp, by simp; omega⟩, fun q => ?_, fun a ha => ?_, Nat.le_refl _, by simp, fun q => ?_, fun a ha => ?_⟩
    · unfold rowL En.lrow
      by_cases e2 : q % 2 = 0
      · rw [if_pos e2, if_pos e2, if_pos (by omega)]
      · rw [if_neg e2, if_neg e2]
    · have := h.r.cell (i := a) ha
      rw [this]; unfold rowR; rw [if_pos ha]
    · have := hug q; have := hmug q
      exact ⟨⟨by simp, by simp; omega⟩, ⟨by simp; omega, by simp; omega⟩, ⟨by simp; omega, by simp; omega⟩⟩
    · have hc := h.cb a ha
      exact ⟨⟨by simp; omega, hc.1.2.1⟩, ⟨by simp; omega, hc.2.2.1⟩⟩
    · have := hug q; have := hmug q
      simp; omega
    · have hc := h.cb a ha
      simp; omega
  have e1 : en.nl = nl := by rw [hen]
  have eL : en.L = lo := by rw [hen]
  have eR : en.R = lo + 1 := by rw [hen]
  have eT : en.Tn = lo + 2 := by rw [hen]
  have eu : en.uv = uv := by rw [hen]
  have em : en.um = um := by rw [hen]
  have elo : en.lo = lo := by rw [hen]
  have ehi : en.hi = w.heap.size := by rw [hen]
  refine ⟨en, e1, by rw [hen], by rw [hen], ?_⟩
  have esn : ∀ q, q < i → (if q = i then en else es q) = es q := fun q hq => if_neg (by omega)
  refine ⟨h.pc.fr, by have := h.pc.sz; omega, h.pc.hb2, h.rw.congr (fun _ _ => rfl) (fun q hq => ?_) (fun q hq => ?_) (fun q hq => ?_) (fun q hq => ?_), h.pc.tvo, h.pc.pvo, h.pc.ow, fun q hq => ?_, fun q hq => ?_, fun p q hpq hq => ?_, fun q hq b hb => ?_, fun q hq b hb => ?_⟩
  · unfold fp2 fpF
    dsimp only
    by_cases a1 : q = i * 3 + 2
    · subst a1
      rw [if_pos rfl, if_neg (by omega), if_pos (by omega), if_neg (by omega), show (i * 3 + 2) / 3 = i by omega, if_pos rfl, eu]
    · rw [if_neg a1]
      by_cases a2 : q = i * 3 + 1
      · subst a2
        rw [if_pos rfl, if_neg (by omega), if_pos (by omega), if_pos (by omega), show (i * 3 + 1) / 3 = i by omega, if_pos rfl, eL, e1]
      · rw [if_neg a2]
        by_cases a3 : q % 3 = 0
        · rw [if_pos a3, if_pos a3]
        · rw [if_neg a3, if_neg a3]
          by_cases a4 : q / 3 < i
          · have a5 : q / 3 < i + 1 := by omega
            have a6 : ¬ q / 3 = i := by omega
            simp only [if_pos a4, if_pos a5, if_neg a6]
          · have a5 : ¬ q / 3 < i + 1 := by omega
            simp only [if_neg a4, if_neg a5]
  · unfold fr2 frF
    dsimp only
    by_cases a1 : q = i
    · subst a1; rw [if_pos rfl, if_pos (by omega), if_pos rfl, eR, e1]
    · rw [if_neg a1, if_neg a1]
      by_cases a4 : q < i
      · rw [if_pos a4, if_pos (by omega)]
      · rw [if_neg a4, if_neg (by omega)]
  · unfold fu2 fuF
    dsimp only
    by_cases a1 : q = i
    · subst a1; rw [if_pos rfl, if_pos (by omega), if_pos rfl, eT, e1]
    · rw [if_neg a1, if_neg a1]
      by_cases a4 : q < i
      · rw [if_pos a4, if_pos (by omega)]
      · rw [if_neg a4, if_neg (by omega)]
  · unfold fl2 flF
    dsimp only
    by_cases a1 : q = i
    · subst a1; rw [if_pos rfl, if_pos (by omega), if_pos rfl, em]
    · rw [if_neg a1, if_neg a1]
      by_cases a4 : q < i
      · rw [if_pos a4, if_pos (by omega)]
      · rw [if_neg a4, if_neg (by omega)]
  · by_cases a1 : q = i
    · simp only [if_pos a1]; exact hok
    · simp only [if_neg a1]; exact h.pc.en q (by omega)
  · by_cases a1 : q = i
    · simp only [if_pos a1, elo]; exact h.pc.hb
    · simp only [if_neg a1]; exact h.pc.iv q (by omega)
  · have hp : ¬ p = i := by omega
    by_cases a1 : q = i
    · simp only [if_neg hp, if_pos a1, elo]; exact h.pc.el p (by omega)
    · simp only [if_neg hp, if_neg a1]; exact h.pc.ap p q hpq (by omega)
  · by_cases a1 : q = i
    · simp only [if_pos a1]; intro hh
      have := hh.1; rw [elo] at this; have := h.pc.tl b hb; omega
    · simp only [if_neg a1]; exact h.pc.ot q (by omega) b hb
  · by_cases a1 : q = i
    · simp only [if_pos a1]; intro hh
      have := hh.1; rw [elo] at this; have := h.pc.pl b hb; omega
    · simp only [if_neg a1]; exact h.pc.op q (by omega) b hb
end

end Go.Proofs.Ybulkbdbe
