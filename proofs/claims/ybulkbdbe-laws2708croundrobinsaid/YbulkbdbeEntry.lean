import Derived.Test.YbulkbdbeMain
namespace Go.Proofs.Ybulkbdbe
open Go.RowKit Go.Deep
set_option linter.unusedVariables false

/-- one priority, as it is laid: its localities, the model's counters, the endpoints; all its blocks lie from lo to hi -/
structure En where
  nl : Nat
  lU : Nat → Nat
  k : Nat → Nat
  E : Nat → Nat → Nat
  L : Nat
  R : Nat
  Tn : Nat
  ug : Nat
  mug : Nat
  C : Nat → Nat
  RC : Nat → Nat
  uv : Value
  um : Value
  lo : Nat
  hi : Nat

def En.lrow (e : En) (q : Nat) : Value := if q % 2 = 0 then .slice (some ⟨e.C (q / 2), 0, none⟩) (e.k (q / 2)) (e.k (q / 2)) else .int .u64 (0 : Nat)

def En.has (e : En) (b : Nat) : Prop := e.lo ≤ b ∧ b < e.hi

structure En.Ok (e : En) (w : World) : Prop where
  nl3 : e.nl ≤ 3
  up : Up e.nl e.lU
  kk : ∀ j, j < e.nl → 0 < e.k j ∧ e.k j ≤ 4
  lr : w.rowIs e.L 106 (e.nl * 2) e.lrow
  tr : w.rowIs e.Tn 33 e.nl (fun _ => .int .u64 (0 : Nat))
  r : ∀ j, j < e.nl → w.cell? ⟨e.R, j, none⟩ = some (.slice (some ⟨e.RC j, 0, none⟩) (e.k j) (e.k j))
  cs : ∀ j q, j < e.nl → q < e.k j → w.cell? ⟨e.C j, q, none⟩ = some (.pointer (some ⟨e.E j q, 0, none⟩))
  rc : ∀ j q, j < e.nl → q < e.k j → w.cell? ⟨e.RC j, q, none⟩ = some (.pointer (some ⟨e.E j q, 0, none⟩))
  lus : 0 < e.nl → Us w e.uv e.nl e.ug e.lU
  mus : 0 < e.nl → Us w e.um e.nl e.mug e.lU
  hL : e.has e.L
  hT : e.has e.Tn
  hR : 0 < e.nl → e.has e.R ∧ e.has e.ug ∧ e.has e.mug
  hC : ∀ j, j < e.nl → e.has (e.C j) ∧ e.has (e.RC j)
  hi : e.hi ≤ w.heap.size
  ne : e.L ≠ e.Tn
  neR : 0 < e.nl → e.R ≠ e.L ∧ e.R ≠ e.Tn ∧ e.ug ≠ e.L ∧ e.ug ≠ e.Tn ∧ e.mug ≠ e.L ∧ e.mug ≠ e.Tn
  neC : ∀ j, j < e.nl → e.C j ≠ e.L ∧ e.C j ≠ e.Tn ∧ e.RC j ≠ e.L ∧ e.RC j ≠ e.Tn

theorem En.Ok.fr {e : En} {w w' : World} {M : Nat → Prop} (h : e.Ok w) (f : Fr M w w') (a : ∀ b, e.has b → ¬ M b) : e.Ok w' :=
  ⟨h.nl3, h.up, h.kk, f.row h.lr (a _ h.hL), f.row h.tr (a _ h.hT), fun j hj => f.cell (h.r j hj) (a _ (h.hR (by omega)).1), fun j q hj hq => f.cell (h.cs j q hj hq) (a _ (h.hC j hj).1), fun j q hj hq => f.cell (h.rc j q hj hq) (a _ (h.hC j hj).2),
   fun q => (h.lus q).fr f (a _ (h.hR q).2.1), fun q => (h.mus q).fr f (a _ (h.hR q).2.2), h.hL, h.hT, h.hR, h.hC, Nat.le_trans h.hi f.size, h.ne, h.neR, h.neC⟩

/-- the five rows that the law lays ahead of its loops -/
structure Rw (w : World) (T PR RF TU LU np : Nat) (ft fp fr fu fl : Nat → Value) : Prop where
  t : w.rowIs T 91 2 ft
  p : w.rowIs PR 97 (np * 3) fp
  r : w.rowIs RF 98 np fr
  u : w.rowIs TU 54 np fu
  l : w.rowIs LU 54 np fl
  o : T < PR ∧ PR < RF ∧ RF < TU ∧ TU < LU

section
variable {w w' : World} {T PR RF TU LU np : Nat} {ft fp fr fu fl gt gp gr gu gl : Nat → Value} {M : Nat → Prop}

theorem Rw.next (h : Rw w T PR RF TU LU np ft fp fr fu fl) (f : Fr M w w') (a : ∀ b, T ≤ b → b ≤ LU → ¬ M b) : Rw w' T PR RF TU LU np ft fp fr fu fl := by
  have := h.o
  exact ⟨f.row h.t (a _ (by omega) (by omega)), f.row h.p (a _ (by omega) (by omega)), f.row h.r (a _ (by omega) (by omega)), f.row h.u (a _ (by omega) (by omega)), f.row h.l (a _ (by omega) (by omega)), h.o⟩

theorem Rw.setT (h : Rw w T PR RF TU LU np ft fp fr fu fl) (i : Nat) (v : Value) : Rw (w.setCell ⟨T, i, none⟩ v) T PR RF TU LU np (fun j => if j = i then v else ft j) fp fr fu fl := by
  have := h.o
  exact ⟨h.t.set i v, h.p.setOther (by simp; omega) v, h.r.setOther (by simp; omega) v, h.u.setOther (by simp; omega) v, h.l.setOther (by simp; omega) v, h.o⟩

theorem Rw.setP (h : Rw w T PR RF TU LU np ft fp fr fu fl) (i : Nat) (v : Value) : Rw (w.setCell ⟨PR, i, none⟩ v) T PR RF TU LU np ft (fun j => if j = i then v else fp j) fr fu fl := by
  have := h.o
  exact ⟨h.t.setOther (by simp; omega) v, h.p.set i v, h.r.setOther (by simp; omega) v, h.u.setOther (by simp; omega) v, h.l.setOther (by simp; omega) v, h.o⟩

theorem Rw.setR (h : Rw w T PR RF TU LU np ft fp fr fu fl) (i : Nat) (v : Value) : Rw (w.setCell ⟨RF, i, none⟩ v) T PR RF TU LU np ft fp (fun j => if j = i then v else fr j) fu fl := by
  have := h.o
  exact ⟨h.t.setOther (by simp; omega) v, h.p.setOther (by simp; omega) v, h.r.set i v, h.u.setOther (by simp; omega) v, h.l.setOther (by simp; omega) v, h.o⟩

theorem Rw.setU (h : Rw w T PR RF TU LU np ft fp fr fu fl) (i : Nat) (v : Value) : Rw (w.setCell ⟨TU, i, none⟩ v) T PR RF TU LU np ft fp fr (fun j => if j = i then v else fu j) fl := by
  have := h.o
  exact ⟨h.t.setOther (by simp; omega) v, h.p.setOther (by simp; omega) v, h.r.setOther (by simp; omega) v, h.u.set i v, h.l.setOther (by simp; omega) v, h.o⟩

theorem Rw.setL (h : Rw w T PR RF TU LU np ft fp fr fu fl) (i : Nat) (v : Value) : Rw (w.setCell ⟨LU, i, none⟩ v) T PR RF TU LU np ft fp fr fu (fun j => if j = i then v else fl j) := by
  have := h.o
  exact ⟨h.t.setOther (by simp; omega) v, h.p.setOther (by simp; omega) v, h.r.setOther (by simp; omega) v, h.u.setOther (by simp; omega) v, h.l.set i v, h.o⟩

theorem Rw.congr (h : Rw w T PR RF TU LU np ft fp fr fu fl) (h1 : ∀ q, q < 2 → ft q = gt q) (h2 : ∀ q, q < np * 3 → fp q = gp q) (h3 : ∀ q, q < np → fr q = gr q) (h4 : ∀ q, q < np → fu q = gu q) (h5 : ∀ q, q < np → fl q = gl q) : Rw w T PR RF TU LU np gt gp gr gu gl :=
  ⟨h.t.congr h1, h.p.congr h2, h.r.congr h3, h.u.congr h4, h.l.congr h5, h.o⟩
end

/-- the rows when the first i priorities are laid -/
def ftF (PR np : Nat) (tv : Value) (q : Nat) : Value := if q = 0 then .slice (some ⟨PR, 0, none⟩) np np else tv
def fpF (es : Nat → En) (i q : Nat) : Value := if q % 3 = 0 then .bool false else if q / 3 < i then (if q % 3 = 1 then .slice (some ⟨(es (q / 3)).L, 0, none⟩) (es (q / 3)).nl (es (q / 3)).nl else (es (q / 3)).uv) else .slice none 0 0
def frF (es : Nat → En) (i q : Nat) : Value := if q < i then .slice (some ⟨(es q).R, 0, none⟩) (es q).nl (es q).nl else .slice none 0 0
def fuF (es : Nat → En) (i q : Nat) : Value := if q < i then .slice (some ⟨(es q).Tn, 0, none⟩) (es q).nl (es q).nl else .slice none 0 0
def flF (es : Nat → En) (i q : Nat) : Value := if q < i then (es q).um else .slice none 0 0

/-- u64 numbers as cells -/
def cells (U : Nat → Nat) (n : Nat) : List Value := (List.range n).map fun q => .int .u64 (U q)

theorem cells_succ (U : Nat → Nat) (n : Nat) : cells U (n + 1) = cells U n ++ [.int .u64 (U n)] := by
  unfold cells; rw [List.range_succ, List.map_append]; rfl

theorem cells_congr {U V : Nat → Nat} {n : Nat} (h : ∀ q, q < n → U q = V q) : cells U n = cells V n := by
  unfold cells
  apply List.map_congr_left
  intro q hq
  rw [h q (List.mem_range.1 hq)]

theorem cells_length (U : Nat → Nat) (n : Nat) : (cells U n).length = n := by simp [cells]

/-- a row that is owned, read as numbers -/
theorem owns_us {w : World} {base n : Nat} {v : Value} {U : Nat → Nat} (h : w.ownsRow base 33 1 v n (cells U n)) (hn : 0 < n) : ∃ g, v.ownBlock = some g ∧ base ≤ g ∧ g < w.heap.size ∧ Us w v n g U := by
  rcases h.2 with ⟨_, q⟩ | ⟨g, cap, cur, rfl, hb, hg, rest⟩
  · omega
  · refine ⟨g, rfl, hb, (Array.getElem?_eq_some_iff.1 hg).1, ⟨cap, rfl⟩, fun q hq => ?_⟩
    have := h.cells (g := g) rfl q (.int .u64 (U q)) (by simp [cells, hq])
    rw [Addr.add_lit, Nat.zero_add] at this
    exact this

/-- the state ahead of priority i: T.upTo is tv, of it numbers; pUp is pv, of ip -/
structure P1 (w5 w : World) (T PR RF TU LU HB np i it ip : Nat) (es : Nat → En) (U : Nat → Nat) (tv pv : Value) : Prop where
  fr : Fr (fun b => T ≤ b) w5 w
  hb : HB ≤ w.heap.size
  hb2 : LU < HB
  rw : Rw w T PR RF TU LU np (ftF PR np tv) (fpF es i) (frF es i) (fuF es i) (flF es i)
  tvo : w.ownsRow HB 33 1 tv it (cells U it)
  pvo : w.ownsRow HB 33 1 pv ip (cells U ip)
  ow : ∀ b, tv.ownBlock = some b → pv.ownBlock ≠ some b
  en : ∀ q, q < i → (es q).Ok w
  iv : ∀ q, q < i → HB ≤ (es q).lo
  ap : ∀ p q, p < q → q < i → (es p).hi ≤ (es q).lo
  ot : ∀ q, q < i → ∀ b, tv.ownBlock = some b → ¬ (es q).has b
  op : ∀ q, q < i → ∀ b, pv.ownBlock = some b → ¬ (es q).has b

section
variable {w5 w w1 : World} {T PR RF TU LU HB np i it ip : Nat} {es : Nat → En} {U : Nat → Nat} {tv pv v' : Value}

theorem P1.stepT (h : P1 w5 w T PR RF TU LU HB np i it ip es U tv pv) (hf : Fr (fun b => some b = tv.ownBlock) w w1) (ho : w1.ownsRow HB 33 1 v' (it + 1) (cells U (it + 1))) (hat : Own tv v' w.heap.size) :
    P1 w5 (w1.setCell ⟨T, 1, none⟩ v') T PR RF TU LU HB np i (it + 1) ip es U v' pv := by
  have ho1 := h.rw.o
  have hge := h.tvo.lt
  have hgp := h.pvo.lt
  have hlu := h.hb2
  have hs : Fr (fun b => b = T) w1 (w1.setCell ⟨T, 1, none⟩ v') := Fr.setCell (M := fun b => b = T) (Fr.refl _ w1) (p := ⟨T, 1, none⟩) rfl _
  have hn : ∀ q, q < i → ∀ b, v'.ownBlock = some b → ¬ (es q).has b := fun q hq b hb hh => by
    rcases hat with e | ⟨g, e, hg⟩
    · exact h.ot q hq b (e ▸ hb) hh
    · rw [e] at hb; cases hb
      have := (h.en q hq).hi; have := hh.2; omega
  refine ⟨?_, ?_, h.hb2, ?_, ?_, ?_, ?_, ?_, h.iv, h.ap, hn, h.op⟩
  · exact (h.fr.trans' hf (fun b hb e => by have := (hge b e.symm).1; omega)).setCell (p := ⟨T, 1, none⟩) (Nat.le_refl _) _
  · have := hf.size; have := hs.size; have := h.hb; omega
  · refine ((h.rw.next hf (fun b h1 h2 e => by have := (hge b e.symm).1; omega)).setT 1 v').congr (fun q hq => ?_) (fun _ _ => rfl) (fun _ _ => rfl) (fun _ _ => rfl) (fun _ _ => rfl)
    unfold ftF
    by_cases e : q = 1
    · subst e; rw [if_pos rfl, if_neg (by omega)]
    · rw [if_neg e, if_pos (by omega), if_pos (by omega)]
  · exact hs.owns ho (fun k hk e => by have := (ho.lt k hk).1; omega)
  · exact hs.owns (hf.owns h.pvo (fun k hk e => h.ow k e.symm hk)) (fun k hk e => by have := (hgp k hk).1; omega)
  · intro b hb e
    rcases hat with q | ⟨g, q, hg⟩
    · exact h.ow b (q ▸ hb) e
    · rw [q] at hb; cases hb
      have := (hgp _ e).2; omega
  · intro q hq
    exact ((h.en q hq).fr hf (fun b hh e => h.ot q hq b e.symm hh)).fr hs (fun b hh e => by have := h.iv q hq; have := hh.1; omega)

theorem P1.stepP (h : P1 w5 w T PR RF TU LU HB np i it ip es U tv pv) (hf : Fr (fun b => some b = pv.ownBlock) w w1) (ho : w1.ownsRow HB 33 1 v' (ip + 1) (cells U (ip + 1))) (hat : Own pv v' w.heap.size) :
    P1 w5 w1 T PR RF TU LU HB np i it (ip + 1) es U tv v' := by
  have ho1 := h.rw.o
  have hge := h.pvo.lt
  have hgt := h.tvo.lt
  have hlu := h.hb2
  refine ⟨h.fr.trans' hf (fun b hb e => by have := (hge b e.symm).1; omega), by have := hf.size; have := h.hb; omega, h.hb2, h.rw.next hf (fun b h1 h2 e => by have := (hge b e.symm).1; omega), hf.owns h.tvo (fun k hk e => h.ow k hk e.symm), ho, ?_, fun q hq => (h.en q hq).fr hf (fun b hh e => h.op q hq b e.symm hh), h.iv, h.ap, h.ot, ?_⟩
  · intro b hb e
    rcases hat with q | ⟨g, q, hg⟩
    · exact h.ow b hb (q ▸ e)
    · rw [q] at e; cases e
      have := (hgt _ hb).2; omega
  · intro q hq b hb hh
    rcases hat with e | ⟨g, e, hg⟩
    · exact h.op q hq b (e ▸ hb) hh
    · rw [e] at hb; cases hb
      have := (h.en q hq).hi; have := hh.2; omega

theorem P1.alloc (h : P1 w5 w T PR RF TU LU HB np i it ip es U tv pv) (f : Fr (fun _ => False) w w1) : P1 w5 w1 T PR RF TU LU HB np i it ip es U tv pv :=
  ⟨h.fr.trans' f (fun _ _ e => e.elim), Nat.le_trans h.hb f.size, h.hb2, h.rw.next f (fun _ _ _ => id), f.owns h.tvo (fun _ _ => id), f.owns h.pvo (fun _ _ => id), h.ow, fun q hq => (h.en q hq).fr f (fun _ _ => id), h.iv, h.ap, h.ot, h.op⟩
end

end Go.Proofs.Ybulkbdbe
