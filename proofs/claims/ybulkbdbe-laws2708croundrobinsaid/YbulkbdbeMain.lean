import Derived.Test.YbulkbdbeSame
namespace Go.Proofs.Ybulkbdbe
open Go.RowKit Go.Deep
set_option linter.unusedVariables false

/-- where the model's own tables lie -/
structure Md where
  RF : Nat
  TU : Nat
  LU : Nat
  K : Nat
  mg : Nat
  R : Nat → Nat
  Tn : Nat → Nat
  RC : Nat → Nat → Nat
  mug : Nat → Nat
  mv : Value
  um : Nat → Value

structure Md.Im (m : Md) (c : Cf) (w : World) (X G D : Nat) : Prop where
  kk : w.cell? ⟨m.K, 0, none⟩ = some (.func (.func 19) #[] #[.pointer (some ⟨G, 0, none⟩), .pointer (some ⟨D, 0, none⟩), .pointer (some ⟨X, 0, none⟩)])
  us : 0 < c.np → Us w m.mv c.np m.mg c.U
  rf : ∀ i, i < c.np → w.cell? ⟨m.RF, i, none⟩ = some (.slice (some ⟨m.R i, 0, none⟩) (c.nl i) (c.nl i))
  tu : ∀ i, i < c.np → w.cell? ⟨m.TU, i, none⟩ = some (.slice (some ⟨m.Tn i, 0, none⟩) (c.nl i) (c.nl i))
  lu : ∀ i, i < c.np → w.cell? ⟨m.LU, i, none⟩ = some (m.um i)
  lus : ∀ i, i < c.np → 0 < c.nl i → Us w (m.um i) (c.nl i) (m.mug i) (c.lU i)
  r : ∀ i j, i < c.np → j < c.nl i → w.cell? ⟨m.R i, j, none⟩ = some (.slice (some ⟨m.RC i j, 0, none⟩) (c.k i j) (c.k i j))
  rc : ∀ i j e, i < c.np → j < c.nl i → e < c.k i j → w.cell? ⟨m.RC i j, e, none⟩ = some (.pointer (some ⟨c.E i j e, 0, none⟩))

structure Md.Av (m : Md) (c : Cf) (M : Nat → Prop) : Prop where
  kk : ¬ M m.K
  mg : 0 < c.np → ¬ M m.mg
  rf : 0 < c.np → ¬ M m.RF
  tu : 0 < c.np → ¬ M m.TU
  lu : 0 < c.np → ¬ M m.LU
  mug : ∀ i, i < c.np → 0 < c.nl i → ¬ M (m.mug i)
  r : ∀ i, i < c.np → 0 < c.nl i → ¬ M (m.R i)
  rc : ∀ i j, i < c.np → j < c.nl i → ¬ M (m.RC i j)

theorem Md.Im.fr {m : Md} {c : Cf} {w w' : World} {X G D : Nat} {M : Nat → Prop} (h : m.Im c w X G D) (f : Fr M w w') (a : m.Av c M) : m.Im c w' X G D :=
  ⟨f.cell h.kk a.kk, fun q => (h.us q).fr f (a.mg q), fun i hi => f.cell (h.rf i hi) (a.rf (by omega)), fun i hi => f.cell (h.tu i hi) (a.tu (by omega)), fun i hi => f.cell (h.lu i hi) (a.lu (by omega)),
   fun i hi q => (h.lus i hi q).fr f (a.mug i hi q), fun i j hi hj => f.cell (h.r i j hi hj) (a.r i hi (by omega)), fun i j e hi hj he => f.cell (h.rc i j e hi hj he) (a.rc i j hi hj)⟩

/-- the model's counters -/
def Md.Tr (m : Md) (c : Cf) (w : World) (tn : Nat → Nat → Nat) : Prop := ∀ i, i < c.np → w.rowIs (m.Tn i) 33 (c.nl i) (fun j => .int .u64 (tn i j))

/-- what the main loop may write -/
def Mu (c : Cf) (m : Md) (X1 G1 X2 G2 base : Nat) (b : Nat) : Prop := base ≤ b ∨ b = X1 ∨ b = G1 ∨ b = X2 ∨ b = G2 ∨ ∃ i, i < c.np ∧ (b = c.L i ∨ b = m.Tn i)

/-- the blocks stand apart -/
structure Ap (c : Cf) (m : Md) (X1 G1 X2 G2 D base nd : Nat) (pd : Option Addr) : Prop where
  p : c.Pure
  x : X1 < base ∧ G1 < base ∧ X2 < base ∧ G2 < base
  xx : X1 ≠ G1 ∧ X1 ≠ X2 ∧ X1 ≠ G2 ∧ G1 ≠ X2 ∧ G1 ≠ G2 ∧ X2 ≠ G2
  l : ∀ i, i < c.np → c.L i < base ∧ c.L i ≠ X1 ∧ c.L i ≠ G1 ∧ c.L i ≠ X2 ∧ c.L i ≠ G2
  t : ∀ i, i < c.np → m.Tn i < base ∧ m.Tn i ≠ X1 ∧ m.Tn i ≠ G1 ∧ m.Tn i ≠ X2 ∧ m.Tn i ≠ G2
  lt : ∀ i j, i < c.np → j < c.np → c.L i ≠ m.Tn j
  tt : ∀ i j, i < c.np → j < c.np → i ≠ j → m.Tn i ≠ m.Tn j
  ac : c.Av (Mu c m X1 G1 X2 G2 base)
  am : m.Av c (Mu c m X1 G1 X2 G2 base)
  ad : ¬ Mu c m X1 G1 X2 G2 base D
  aa : 0 < nd → ∀ a, pd = some a → ¬ Mu c m X1 G1 X2 G2 base a.block

theorem Cf.Av.sub {c : Cf} {M N : Nat → Prop} (a : c.Av M) (h : ∀ b, N b → M b) : c.Av N :=
  ⟨fun e => a.bl (h _ e), fun e => a.t (h _ e), fun q e => a.pr q (h _ e), fun q e => a.pg q (h _ e), fun i hi q e => a.ug i hi q (h _ e), fun i j hi hj e => a.cs i j hi hj (h _ e)⟩

theorem Md.Av.sub {m : Md} {c : Cf} {M N : Nat → Prop} (a : m.Av c M) (h : ∀ b, N b → M b) : m.Av c N :=
  ⟨fun e => a.kk (h _ e), fun q e => a.mg q (h _ e), fun q e => a.rf q (h _ e), fun q e => a.tu q (h _ e), fun q e => a.lu q (h _ e), fun i hi q e => a.mug i hi q (h _ e), fun i hi q e => a.r i hi q (h _ e), fun i j hi hj e => a.rc i j hi hj (h _ e)⟩

/-- how things stand between two choices -/
structure S2 (c : Cf) (m : Md) (w0 w : World) (X1 G1 X2 G2 D base nd cd : Nat) (pd : Option Addr) (dz : Nat → Nat) (lv1 lv2 : Value) (i1 i2 : Nat) (xs1 xs2 : List Int) (tl tt : Nat → Nat → Nat) : Prop where
  d1 : Dr w X1 G1 D base nd cd pd dz lv1 i1 xs1
  d2 : Dr w X2 G2 D base nd cd pd dz lv2 i2 xs2
  ic : c.Im w X1 G1 D
  im : m.Im c w X2 G2 D
  lr : c.Lr w tl
  tr : m.Tr c w tt
  fr : Fr (Mu c m X1 G1 X2 G2 base) w0 w
  own : ∀ b, lv1.ownBlock = some b → lv2.ownBlock ≠ some b

section
variable {c : Cf} {m : Md} {w0 w w' : World} {X1 G1 X2 G2 D base nd cd i1 i2 j1 j2 : Nat} {pd : Option Addr} {dz : Nat → Nat} {lv1 lv2 lv' : Value} {xs1 xs2 ys1 ys2 : List Int} {tl tt t' : Nat → Nat → Nat}

theorem mv_mu1 (h : S2 c m w0 w X1 G1 X2 G2 D base nd cd pd dz lv1 lv2 i1 i2 xs1 xs2 tl tt) {b : Nat} (hb : Mv X1 G1 lv1 b) : Mu c m X1 G1 X2 G2 base b := by
  rcases hb with e | e | e
  · exact .inr (.inl e)
  · exact .inr (.inr (.inl e))
  · exact .inl (h.d1.ownge e.symm).1

theorem mv_mu2 (h : S2 c m w0 w X1 G1 X2 G2 D base nd cd pd dz lv1 lv2 i1 i2 xs1 xs2 tl tt) {b : Nat} (hb : Mv X2 G2 lv2 b) : Mu c m X1 G1 X2 G2 base b := by
  rcases hb with e | e | e
  · exact .inr (.inr (.inr (.inl e)))
  · exact .inr (.inr (.inr (.inr (.inl e))))
  · exact .inl (h.d2.ownge e.symm).1

/-- behind a choice -/
theorem S2.chosen (h : S2 c m w0 w X1 G1 X2 G2 D base nd cd pd dz lv1 lv2 i1 i2 xs1 xs2 tl tt) (a : Ap c m X1 G1 X2 G2 D base nd pd)
    (hd : Dr w' X1 G1 D base nd cd pd dz lv' j1 ys1) (hl : c.Lr w' t') (hf : Fr (fun b => Mv X1 G1 lv1 b ∨ ∃ i, i < c.np ∧ b = c.L i) w w') (ho : Own lv1 lv' w.heap.size) :
    S2 c m w0 w' X1 G1 X2 G2 D base nd cd pd dz lv' lv2 j1 i2 ys1 xs2 t' tt := by
  have hN : ∀ b, (Mv X1 G1 lv1 b ∨ ∃ i, i < c.np ∧ b = c.L i) → Mu c m X1 G1 X2 G2 base b := fun b hb => by
    rcases hb with hb | ⟨i, hi, e⟩
    · exact mv_mu1 h hb
    · exact .inr (.inr (.inr (.inr (.inr ⟨i, hi, .inl e⟩))))
  refine ⟨hd, ?_, h.ic.fr hf (a.ac.sub hN), h.im.fr hf (a.am.sub hN), hl, ?_, h.fr.trans' hf (fun b _ e => hN b e), ?_⟩
  · refine h.d2.fr hf ?_ ?_ (fun e => a.ad (hN _ e)) (fun k hk e => ?_) (fun hn q hq e => a.aa hn q hq (hN _ e))
    · rintro ((e | e | e) | ⟨i, hi, e⟩)
      · exact a.xx.2.1 e.symm
      · exact a.xx.2.2.2.1 e.symm
      · have := (h.d1.ownge e.symm).1; have := a.x.2.2.1; omega
      · exact (a.l i hi).2.2.2.1 e.symm
    · rintro ((e | e | e) | ⟨i, hi, e⟩)
      · exact a.xx.2.2.1 e.symm
      · exact a.xx.2.2.2.2.1 e.symm
      · have := (h.d1.ownge e.symm).1; have := a.x.2.2.2; omega
      · exact (a.l i hi).2.2.2.2 e.symm
    · have hk2 := (h.d2.ownge hk).1
      rcases e with (e | e | e) | ⟨i, hi, e⟩
      · have := a.x.1; omega
      · have := a.x.2.1; omega
      · exact h.own k e.symm hk
      · have := (a.l i hi).1; omega
  · intro i hi
    refine hf.row (h.tr i hi) ?_
    rintro ((e | e | e) | ⟨j, hj, e⟩)
    · exact (a.t i hi).2.1 e
    · exact (a.t i hi).2.2.1 e
    · have := (h.d1.ownge e.symm).1; have := (a.t i hi).1; omega
    · exact a.lt j i hj hi e.symm
  · intro b hb e
    rcases ho with q | ⟨g, q, hg⟩
    · exact h.own b (q ▸ hb) e
    · rw [q] at hb; cases hb
      have := (h.d2.ownge e).2; omega

/-- behind a pick of the model -/
theorem S2.picked (h : S2 c m w0 w X1 G1 X2 G2 D base nd cd pd dz lv1 lv2 i1 i2 xs1 xs2 tl tt) (a : Ap c m X1 G1 X2 G2 D base nd pd)
    (hd : Dr w' X2 G2 D base nd cd pd dz lv' j2 ys2) (hf : Fr (Mv X2 G2 lv2) w w') (ho : Own lv2 lv' w.heap.size) :
    S2 c m w0 w' X1 G1 X2 G2 D base nd cd pd dz lv1 lv' i1 j2 xs1 ys2 tl tt := by
  have hN : ∀ b, Mv X2 G2 lv2 b → Mu c m X1 G1 X2 G2 base b := fun b hb => mv_mu2 h hb
  refine ⟨?_, hd, h.ic.fr hf (a.ac.sub hN), h.im.fr hf (a.am.sub hN), ?_, ?_, h.fr.trans' hf (fun b _ e => hN b e), ?_⟩
  · refine h.d1.fr hf ?_ ?_ (fun e => a.ad (hN _ e)) (fun k hk e => ?_) (fun hn q hq e => a.aa hn q hq (hN _ e))
    · rintro (e | e | e)
      · exact a.xx.2.1 e
      · exact a.xx.2.2.1 e
      · have := (h.d2.ownge e.symm).1; have := a.x.1; omega
    · rintro (e | e | e)
      · exact a.xx.2.2.2.1 e
      · exact a.xx.2.2.2.2.1 e
      · have := (h.d2.ownge e.symm).1; have := a.x.2.1; omega
    · have hk2 := (h.d1.ownge hk).1
      rcases e with e | e | e
      · have := a.x.2.2.1; omega
      · have := a.x.2.2.2; omega
      · exact h.own k hk e.symm
  · intro i hi
    refine hf.row (h.lr i hi) ?_
    rintro (e | e | e)
    · exact (a.l i hi).2.2.2.1 e
    · exact (a.l i hi).2.2.2.2 e
    · have := (h.d2.ownge e.symm).1; have := (a.l i hi).1; omega
  · intro i hi
    refine hf.row (h.tr i hi) ?_
    rintro (e | e | e)
    · exact (a.t i hi).2.2.2.1 e
    · exact (a.t i hi).2.2.2.2 e
    · have := (h.d2.ownge e.symm).1; have := (a.t i hi).1; omega
  · intro b hb e
    rcases ho with q | ⟨g, q, hg⟩
    · exact h.own b hb (q ▸ e)
    · rw [q] at e; cases e
      have := (h.d1.ownge hb).2; omega

/-- behind the model's turn -/
theorem S2.turned (h : S2 c m w0 w X1 G1 X2 G2 D base nd cd pd dz lv1 lv2 i1 i2 xs1 xs2 tl tt) (a : Ap c m X1 G1 X2 G2 D base nd pd) {p q : Nat} (hp : p < c.np) (hq : q < c.nl p) :
    S2 c m w0 (w.setCell ⟨m.Tn p, q, none⟩ (.int .u64 (tt p q + 1 : Nat))) X1 G1 X2 G2 D base nd cd pd dz lv1 lv2 i1 i2 xs1 xs2 tl (bump tt p q) := by
  have hf : Fr (fun b => b = m.Tn p) w (w.setCell ⟨m.Tn p, q, none⟩ (.int .u64 (tt p q + 1 : Nat))) := Fr.setCell (M := fun b => b = m.Tn p) (Fr.refl _ w) (p := ⟨m.Tn p, q, none⟩) rfl _
  have hN : ∀ b, b = m.Tn p → Mu c m X1 G1 X2 G2 base b := fun b e => .inr (.inr (.inr (.inr (.inr ⟨p, hp, .inr e⟩))))
  have ht := a.t p hp
  refine ⟨?_, ?_, h.ic.fr hf (a.ac.sub hN), h.im.fr hf (a.am.sub hN), ?_, ?_, h.fr.trans' hf (fun b _ e => hN b e), h.own⟩
  · exact h.d1.fr hf (fun e => ht.2.1 e.symm) (fun e => ht.2.2.1 e.symm) (fun e => a.ad (hN _ e)) (fun k hk e => by have := (h.d1.ownge hk).1; omega) (fun hn r hr e => a.aa hn r hr (hN _ e))
  · exact h.d2.fr hf (fun e => ht.2.2.2.1 e.symm) (fun e => ht.2.2.2.2 e.symm) (fun e => a.ad (hN _ e)) (fun k hk e => by have := (h.d2.ownge hk).1; omega) (fun hn r hr e => a.aa hn r hr (hN _ e))
  · intro i hi
    exact hf.row (h.lr i hi) (fun e => a.lt i p hi hp e)
  · intro i hi
    by_cases e : i = p
    · subst e
      refine ((h.tr i hi).set q _).congr fun j hj => ?_
      unfold bump
      by_cases e2 : j = q
      · subst e2; rw [if_pos rfl, if_pos ⟨rfl, rfl⟩]
      · rw [if_neg e2, if_neg (fun hh => e2 hh.2)]
    · refine ((h.tr i hi).setOther (a := ⟨m.Tn p, q, none⟩) (a.tt i p hi hp e) _).congr fun j hj => ?_
      unfold bump
      rw [if_neg (fun hh => e hh.1)]
end

end Go.Proofs.Ybulkbdbe
