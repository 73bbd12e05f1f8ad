import Derived.Test.YbulkbdbeEntry
namespace Go.Proofs.Ybulkbdbe
open Go.RowKit Go.Deep
set_option linter.unusedVariables false

/-- what stays while priority i is being laid: all of it lies below HB or from HB to lo -/
structure Pc (w5 w : World) (T LU HB lo i : Nat) (es : Nat → En) (U : Nat → Nat) (tv pv : Value) : Prop where
  fr : Fr (fun b => T ≤ b) w5 w
  hb : HB ≤ lo
  hb2 : LU < HB
  sz : lo ≤ w.heap.size
  tvo : w.ownsRow HB 33 1 tv (i + 1) (cells U (i + 1))
  pvo : w.ownsRow HB 33 1 pv (i + 1) (cells U (i + 1))
  ow : ∀ b, tv.ownBlock = some b → pv.ownBlock ≠ some b
  tl : ∀ b, tv.ownBlock = some b → b < lo
  pl : ∀ b, pv.ownBlock = some b → b < lo
  en : ∀ q, q < i → (es q).Ok w
  el : ∀ q, q < i → (es q).hi ≤ lo
  iv : ∀ q, q < i → HB ≤ (es q).lo
  ap : ∀ p q, p < q → q < i → (es p).hi ≤ (es q).lo
  ot : ∀ q, q < i → ∀ b, tv.ownBlock = some b → ¬ (es q).has b
  op : ∀ q, q < i → ∀ b, pv.ownBlock = some b → ¬ (es q).has b

section
variable {w5 w w1 : World} {T PR RF TU LU HB lo np i : Nat} {es : Nat → En} {U : Nat → Nat} {tv pv v' : Value} {M : Nat → Prop}

theorem P1.pc (h : P1 w5 w T PR RF TU LU HB np i (i + 1) (i + 1) es U tv pv) : Pc w5 w T LU HB w.heap.size i es U tv pv :=
  ⟨h.fr, h.hb, h.hb2, Nat.le_refl _, h.tvo, h.pvo, h.ow, fun b hb => (h.tvo.lt b hb).2, fun b hb => (h.pvo.lt b hb).2, h.en, fun q hq => (h.en q hq).hi, h.iv, h.ap, h.ot, h.op⟩

theorem Pc.next (h : Pc w5 w T LU HB lo i es U tv pv) (f : Fr M w w1) (hM : ∀ b, M b → T ≤ b ∧ (b < HB ∨ lo ≤ b)) : Pc w5 w1 T LU HB lo i es U tv pv := by
  refine ⟨h.fr.trans' f (fun b _ e => (hM b e).1), h.hb, h.hb2, Nat.le_trans h.sz f.size, f.owns h.tvo (fun k hk e => ?_), f.owns h.pvo (fun k hk e => ?_), h.ow, h.tl, h.pl, fun q hq => (h.en q hq).fr f (fun b hh e => ?_), h.el, h.iv, h.ap, h.ot, h.op⟩
  · have := (hM k e).2; have := (h.tvo.lt k hk).1; have := h.tl k hk; omega
  · have := (hM k e).2; have := (h.pvo.lt k hk).1; have := h.pl k hk; omega
  · have := (hM b e).2; have := h.iv q hq; have := h.el q hq; have := hh.1; have := hh.2; omega

/-- the rows while priority i is being laid -/
def fp2 (es : Nat → En) (i L nl : Nat) (uv : Value) (q : Nat) : Value := if q = i * 3 + 2 then uv else if q = i * 3 + 1 then .slice (some ⟨L, 0, none⟩) nl nl else fpF es i q
def fr2 (es : Nat → En) (i R nl : Nat) (q : Nat) : Value := if q = i then .slice (some ⟨R, 0, none⟩) nl nl else frF es i q
def fu2 (es : Nat → En) (i Tn nl : Nat) (q : Nat) : Value := if q = i then .slice (some ⟨Tn, 0, none⟩) nl nl else fuF es i q
def fl2 (es : Nat → En) (i : Nat) (um : Value) (q : Nat) : Value := if q = i then um else flF es i q

def rowL (C k : Nat → Nat) (j q : Nat) : Value := if q % 2 = 0 then (if q / 2 < j then .slice (some ⟨C (q / 2), 0, none⟩) (k (q / 2)) (k (q / 2)) else .slice none 0 0) else .int .u64 (0 : Nat)
def rowR (RC k : Nat → Nat) (j q : Nat) : Value := if q < j then .slice (some ⟨RC q, 0, none⟩) (k q) (k q) else .slice none 0 0

/-- priority i, its first j localities laid; its weights are in uv (iu of them) and um (im of them) -/
structure P2 (w5 w : World) (T PR RF TU LU HB lo np i j iu im nl : Nat) (es : Nat → En) (U : Nat → Nat) (tv pv : Value) (lU k C RC : Nat → Nat) (E : Nat → Nat → Nat) (uv um : Value) : Prop where
  pc : Pc w5 w T LU HB lo i es U tv pv
  rw : Rw w T PR RF TU LU np (ftF PR np tv) (fp2 es i lo nl uv) (fr2 es i (lo + 1) nl) (fu2 es i (lo + 2) nl) (fl2 es i um)
  sz : lo + 3 ≤ w.heap.size
  l : w.rowIs lo 106 (nl * 2) (rowL C k j)
  r : w.rowIs (lo + 1) 99 nl (rowR RC k j)
  t : w.rowIs (lo + 2) 33 nl (fun _ => .int .u64 (0 : Nat))
  uvo : w.ownsRow (lo + 3) 33 1 uv iu (cells lU iu)
  umo : w.ownsRow (lo + 3) 33 1 um im (cells lU im)
  uo : ∀ b, uv.ownBlock = some b → um.ownBlock ≠ some b
  kk : ∀ a, a < j → 0 < k a ∧ k a ≤ 4
  cs : ∀ a q, a < j → q < k a → w.cell? ⟨C a, q, none⟩ = some (.pointer (some ⟨E a q, 0, none⟩))
  rc : ∀ a q, a < j → q < k a → w.cell? ⟨RC a, q, none⟩ = some (.pointer (some ⟨E a q, 0, none⟩))
  cb : ∀ a, a < j → (lo + 3 ≤ C a ∧ C a < w.heap.size ∧ uv.ownBlock ≠ some (C a) ∧ um.ownBlock ≠ some (C a)) ∧ lo + 3 ≤ RC a ∧ RC a < w.heap.size ∧ uv.ownBlock ≠ some (RC a) ∧ um.ownBlock ≠ some (RC a)

variable {j iu im nl : Nat} {lU k C RC : Nat → Nat} {E : Nat → Nat → Nat} {uv um : Value}

/-- a step that writes new blocks alone, or none -/
theorem P2.alloc (h : P2 w5 w T PR RF TU LU HB lo np i j iu im nl es U tv pv lU k C RC E uv um) (f : Fr (fun _ => False) w w1) : P2 w5 w1 T PR RF TU LU HB lo np i j iu im nl es U tv pv lU k C RC E uv um :=
  ⟨h.pc.next f (fun _ e => e.elim), h.rw.next f (fun _ _ _ => id), Nat.le_trans h.sz f.size, f.row h.l id, f.row h.r id, f.row h.t id, f.owns h.uvo (fun _ _ => id), f.owns h.umo (fun _ _ => id), h.uo, h.kk, fun a q ha hq => f.cell (h.cs a q ha hq) id, fun a q ha hq => f.cell (h.rc a q ha hq) id,
   fun a ha => ⟨⟨(h.cb a ha).1.1, Nat.lt_of_lt_of_le (h.cb a ha).1.2.1 f.size, (h.cb a ha).1.2.2⟩, (h.cb a ha).2.1, Nat.lt_of_lt_of_le (h.cb a ha).2.2.1 f.size, (h.cb a ha).2.2.2⟩⟩

/-- the weight is laid into the table -/
theorem P2.stepU (h : P2 w5 w T PR RF TU LU HB lo np i j iu im nl es U tv pv lU k C RC E uv um) (hf : Fr (fun b => some b = uv.ownBlock) w w1) (ho : w1.ownsRow (lo + 3) 33 1 v' (iu + 1) (cells lU (iu + 1))) (hat : Own uv v' w.heap.size) :
    P2 w5 (w1.setCell ⟨PR, i * 3 + 2, none⟩ v') T PR RF TU LU HB lo np i j (iu + 1) im nl es U tv pv lU k C RC E v' um := by
  have ho1 := h.rw.o
  have hge := h.uvo.lt
  have hgm := h.umo.lt
  have hlu := h.pc.hb2
  have hlo := h.pc.hb
  have hs : Fr (fun b => b = PR) w1 (w1.setCell ⟨PR, i * 3 + 2, none⟩ v') := Fr.setCell (M := fun b => b = PR) (Fr.refl _ w1) (p := ⟨PR, i * 3 + 2, none⟩) rfl _
  have s1 := hf.size
  have s2 := hs.size
  have hnew : ∀ b, b < w.heap.size → uv.ownBlock ≠ some b → v'.ownBlock ≠ some b := fun b hb hn e => by
    rcases hat with q | ⟨g, q, hg⟩
    · exact hn (q ▸ e)
    · rw [q] at e; cases e; omega
  refine ⟨(h.pc.next hf (fun b e => ?_)).next hs (fun b e => ?_), ?_, by have := h.sz; omega, ?_, ?_, ?_, ?_, ?_, ?_, h.kk, ?_, ?_, ?_⟩
  · have := (hge b e.symm).1; omega
  · omega
  · refine ((h.rw.next hf (fun b h1 h2 e => by have := (hge b e.symm).1; omega)).setP (i * 3 + 2) v').congr (fun _ _ => rfl) (fun q hq => ?_) (fun _ _ => rfl) (fun _ _ => rfl) (fun _ _ => rfl)
    unfold fp2
    by_cases e : q = i * 3 + 2
    · rw [if_pos e, if_pos e]
    · rw [if_neg e, if_neg e, if_neg e]
  · exact hs.row (hf.row h.l (fun e => by have := (hge _ e.symm).1; omega)) (by omega)
  · exact hs.row (hf.row h.r (fun e => by have := (hge _ e.symm).1; omega)) (by omega)
  · exact hs.row (hf.row h.t (fun e => by have := (hge _ e.symm).1; omega)) (by omega)
  · exact hs.owns ho (fun k hk e => by have := (ho.lt k hk).1; omega)
  · exact hs.owns (hf.owns h.umo (fun k hk e => h.uo k e.symm hk)) (fun k hk e => by have := (hgm k hk).1; omega)
  · intro b hb e
    exact hnew b (hgm b e).2 (fun q => h.uo b q e) hb
  · intro a q ha hq
    have hc := h.cb a ha
    exact hs.cell (hf.cell (h.cs a q ha hq) (fun e => hc.1.2.2.1 e.symm)) (fun e => by simp at e; omega)
  · intro a q ha hq
    have hc := h.cb a ha
    exact hs.cell (hf.cell (h.rc a q ha hq) (fun e => hc.2.2.2.1 e.symm)) (fun e => by simp at e; omega)
  · intro a ha
    have hc := h.cb a ha
    exact ⟨⟨hc.1.1, by omega, hnew _ hc.1.2.1 hc.1.2.2.1, hc.1.2.2.2⟩, hc.2.1, by omega, hnew _ hc.2.2.1 hc.2.2.2.1, hc.2.2.2.2⟩

/-- .. and into the model's -/
theorem P2.stepM (h : P2 w5 w T PR RF TU LU HB lo np i j iu im nl es U tv pv lU k C RC E uv um) (hf : Fr (fun b => some b = um.ownBlock) w w1) (ho : w1.ownsRow (lo + 3) 33 1 v' (im + 1) (cells lU (im + 1))) (hat : Own um v' w.heap.size) :
    P2 w5 (w1.setCell ⟨LU, i, none⟩ v') T PR RF TU LU HB lo np i j iu (im + 1) nl es U tv pv lU k C RC E uv v' := by
  have ho1 := h.rw.o
  have hge := h.umo.lt
  have hgm := h.uvo.lt
  have hlu := h.pc.hb2
  have hlo := h.pc.hb
  have hs : Fr (fun b => b = LU) w1 (w1.setCell ⟨LU, i, none⟩ v') := Fr.setCell (M := fun b => b = LU) (Fr.refl _ w1) (p := ⟨LU, i, none⟩) rfl _
  have s1 := hf.size
  have s2 := hs.size
  have hnew : ∀ b, b < w.heap.size → um.ownBlock ≠ some b → v'.ownBlock ≠ some b := fun b hb hn e => by
    rcases hat with q | ⟨g, q, hg⟩
    · exact hn (q ▸ e)
    · rw [q] at e; cases e; omega
  refine ⟨(h.pc.next hf (fun b e => ?_)).next hs (fun b e => ?_), ?_, by have := h.sz; omega, ?_, ?_, ?_, ?_, ?_, ?_, h.kk, ?_, ?_, ?_⟩
  · have := (hge b e.symm).1; omega
  · omega
  · refine ((h.rw.next hf (fun b h1 h2 e => by have := (hge b e.symm).1; omega)).setL i v').congr (fun _ _ => rfl) (fun _ _ => rfl) (fun _ _ => rfl) (fun _ _ => rfl) (fun q hq => ?_)
    unfold fl2
    by_cases e : q = i
    · rw [if_pos e, if_pos e]
    · rw [if_neg e, if_neg e, if_neg e]
  · exact hs.row (hf.row h.l (fun e => by have := (hge _ e.symm).1; omega)) (by omega)
  · exact hs.row (hf.row h.r (fun e => by have := (hge _ e.symm).1; omega)) (by omega)
  · exact hs.row (hf.row h.t (fun e => by have := (hge _ e.symm).1; omega)) (by omega)
  · exact hs.owns (hf.owns h.uvo (fun k hk e => h.uo k hk e.symm)) (fun k hk e => by have := (hgm k hk).1; omega)
  · exact hs.owns ho (fun k hk e => by have := (ho.lt k hk).1; omega)
  · intro b hb e
    exact hnew b (hgm b hb).2 (fun q => h.uo b hb q) e
  · intro a q ha hq
    have hc := h.cb a ha
    exact hs.cell (hf.cell (h.cs a q ha hq) (fun e => hc.1.2.2.2 e.symm)) (fun e => by simp at e; omega)
  · intro a q ha hq
    have hc := h.cb a ha
    exact hs.cell (hf.cell (h.rc a q ha hq) (fun e => hc.2.2.2.2 e.symm)) (fun e => by simp at e; omega)
  · intro a ha
    have hc := h.cb a ha
    exact ⟨⟨hc.1.1, by omega, hc.1.2.2.1, hnew _ hc.1.2.1 hc.1.2.2.2⟩, hc.2.1, by omega, hc.2.2.2.1, hnew _ hc.2.2.1 hc.2.2.2.2⟩
end

end Go.Proofs.Ybulkbdbe
