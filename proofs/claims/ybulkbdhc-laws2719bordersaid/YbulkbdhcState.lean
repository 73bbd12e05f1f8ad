import Derived.Test.YbulkbdhcUnlink
namespace Go.Proofs.Ybulkbdhc
open Go.RowKit Go.Deep
set_option linter.unusedVariables false

/-- a pointer to node j, or nil -/
def pa (A : Nat) : Option Nat → Option Addr
  | .none => .none
  | some j => some ⟨A + 1 + j, 0, .none⟩
abbrev pn (A : Nat) (o : Option Nat) : Value := .pointer (pa A o)

def nodeF (A i : Nat) (x p : Option Nat) : Nat → Value
  | 0 => pn A x
  | 1 => pn A p
  | 2 => .int .i64 i
  | 3 => .chan .none
  | 4 => .int .u64 0
  | 5 => .int .i64 0
  | 6 => .pointer .none
  | 7 => .bool false
  | 8 => .chan .none
  | _ => .int .u32 0

def queueF (A : Nat) (pe ha : Int) (hd tl : Option Nat) : Nat → Value
  | 0 => .int .u32 0
  | 1 => .int .u32 pe
  | 2 => .int .u32 ha
  | 3 => pn A hd
  | 4 => pn A tl
  | _ => .pointer .none

structure Sh (w0 : World) (A cnt : Nat) (pe ha : Int) (nx pv : Nat → Option Nat) (hd tl : Option Nat) (m : Nat → Nat) (w1 : World) : Prop where
  base : w0.heap.size ≤ A
  ws : w1.rowIs A 25 cnt (fun i => pn A (some i))
  nd : ∀ i, i < cnt → w1.rowIs (A + 1 + i) 39 11 (nodeF A i (nx i) (pv i))
  q : w1.rowIs (A + 1 + cnt) 42 6 (queueF A pe ha hd tl)
  md : w1.rowIs (A + 1 + cnt + 1) 3 cnt (fun i => .int .i64 (m i))
  below : Below w0.heap.size w0 w1

variable {w0 w1 : World} {A cnt : Nat} {pe ha : Int} {nx pv : Nat → Option Nat} {hd tl : Option Nat} {m : Nat → Nat}

theorem Sh.drew (h : Sh w0 A cnt pe ha nx pv hd tl m w1) : Sh w0 A cnt pe ha nx pv hd tl m w1.drew :=
  ⟨h.base, h.ws.drew, fun i hi => (h.nd i hi).drew, h.q.drew, h.md.drew, h.below.drew⟩

theorem Sh.drewN (h : Sh w0 A cnt pe ha nx pv hd tl m w1) (n : Nat) : Sh w0 A cnt pe ha nx pv hd tl m (w1.drewN n) := by
  induction n with
  | zero => exact h
  | succ n ih => exact ih.drew

theorem Sh.setNext (h : Sh w0 A cnt pe ha nx pv hd tl m w1) {j : Nat} (hj : j < cnt) (v : Option Nat) :
    Sh w0 A cnt pe ha (fun x => if x = j then v else nx x) pv hd tl m (w1.setCell ⟨A + 1 + j, 0, .none⟩ (pn A v)) := by
  have hb := h.base
  refine ⟨hb, h.ws.setOther (by simp; omega) _, fun i hi => ?_, h.q.setOther (by simp; omega) _, h.md.setOther (by simp; omega) _, h.below.setCell (by simp; omega) _⟩
  by_cases e : i = j
  · subst e
    refine ((h.nd i hi).set 0 (pn A v)).congr fun o ho => ?_
    rw [if_pos rfl]
    match o, ho with
    | 0, _ => rfl
    | 1, _ => rfl
    | 2, _ => rfl
    | 3, _ => rfl
    | 4, _ => rfl
    | 5, _ => rfl
    | 6, _ => rfl
    | 7, _ => rfl
    | 8, _ => rfl
    | 9, _ => rfl
    | 10, _ => rfl
  · rw [if_neg e]
    exact (h.nd i hi).setOther (by simp; omega) _

theorem Sh.setPrev (h : Sh w0 A cnt pe ha nx pv hd tl m w1) {j : Nat} (hj : j < cnt) (v : Option Nat) :
    Sh w0 A cnt pe ha nx (fun x => if x = j then v else pv x) hd tl m (w1.setCell ⟨A + 1 + j, 1, .none⟩ (pn A v)) := by
  have hb := h.base
  refine ⟨hb, h.ws.setOther (by simp; omega) _, fun i hi => ?_, h.q.setOther (by simp; omega) _, h.md.setOther (by simp; omega) _, h.below.setCell (by simp; omega) _⟩
  by_cases e : i = j
  · subst e
    refine ((h.nd i hi).set 1 (pn A v)).congr fun o ho => ?_
    rw [if_pos rfl]
    match o, ho with
    | 0, _ => rfl
    | 1, _ => rfl
    | 2, _ => rfl
    | 3, _ => rfl
    | 4, _ => rfl
    | 5, _ => rfl
    | 6, _ => rfl
    | 7, _ => rfl
    | 8, _ => rfl
    | 9, _ => rfl
    | 10, _ => rfl
  · rw [if_neg e]
    exact (h.nd i hi).setOther (by simp; omega) _

theorem Sh.setHead (h : Sh w0 A cnt pe ha nx pv hd tl m w1) (v : Option Nat) :
    Sh w0 A cnt pe ha nx pv v tl m (w1.setCell ⟨A + 1 + cnt, 3, .none⟩ (pn A v)) := by
  have hb := h.base
  refine ⟨hb, h.ws.setOther (by simp <;> omega) _, fun i hi => (h.nd i hi).setOther (by simp <;> omega) _, ?_, h.md.setOther (by simp <;> omega) _, h.below.setCell (by simp <;> omega) _⟩
  refine (h.q.set 3 (pn A v)).congr fun o ho => ?_
  match o, ho with
  | 0, _ => rfl
  | 1, _ => rfl
  | 2, _ => rfl
  | 3, _ => rfl
  | 4, _ => rfl
  | 5, _ => rfl

theorem Sh.setTail (h : Sh w0 A cnt pe ha nx pv hd tl m w1) (v : Option Nat) :
    Sh w0 A cnt pe ha nx pv hd v m (w1.setCell ⟨A + 1 + cnt, 4, .none⟩ (pn A v)) := by
  have hb := h.base
  refine ⟨hb, h.ws.setOther (by simp <;> omega) _, fun i hi => (h.nd i hi).setOther (by simp <;> omega) _, ?_, h.md.setOther (by simp <;> omega) _, h.below.setCell (by simp <;> omega) _⟩
  refine (h.q.set 4 (pn A v)).congr fun o ho => ?_
  match o, ho with
  | 0, _ => rfl
  | 1, _ => rfl
  | 2, _ => rfl
  | 3, _ => rfl
  | 4, _ => rfl
  | 5, _ => rfl

/-- what unlink makes of the links -/
def uNx (nx pv : Nat → Option Nat) (i : Nat) : Nat → Option Nat := fun x => if x = i then .none else if pv i = some x then nx i else nx x
def uPv (nx pv : Nat → Option Nat) (i : Nat) : Nat → Option Nat := fun x => if x = i then .none else if nx i = some x then pv i else pv x
def uHd (nx pv : Nat → Option Nat) (hd : Option Nat) (i : Nat) : Option Nat := if pv i = .none then nx i else hd
def uTl (nx pv : Nat → Option Nat) (tl : Option Nat) (i : Nat) : Option Nat := if nx i = .none then pv i else tl

theorem Sh.congr {nx' pv' : Nat → Option Nat} {hd' tl' : Option Nat} {w2 : World} (h : Sh w0 A cnt pe ha nx pv hd tl m w1) (e1 : ∀ x, nx x = nx' x) (e2 : ∀ x, pv x = pv' x) (e3 : hd = hd') (e4 : tl = tl') (e5 : w1 = w2) : Sh w0 A cnt pe ha nx' pv' hd' tl' m w2 := by
  obtain rfl : nx = nx' := funext e1
  obtain rfl : pv = pv' := funext e2
  subst e3 e4 e5
  exact h

theorem unlink_sh (h : Sh w0 A cnt pe ha nx pv hd tl m w1) {i : Nat} (hi : i < cnt) (hp : ∀ p, pv i = some p → p < cnt ∧ p ≠ i) (hn : ∀ n, nx i = some n → n < cnt ∧ n ≠ i) :
    Calls Yba.prog 6 #[.pointer (some ⟨A + 1 + cnt, 0, .none⟩), .pointer (some ⟨A + 1 + i, 0, .none⟩)] w1 fun e w' => e = .returned (.tuple #[]) ∧
      Sh w0 A cnt pe ha (uNx nx pv i) (uPv nx pv i) (uHd nx pv hd i) (uTl nx pv tl i) m w' := by
  have c0 : w1.cell? ⟨A + 1 + i, 0, .none⟩ = some (pn A (nx i)) := (h.nd i hi).cell (by omega)
  have c1 : w1.cell? ⟨A + 1 + i, 1, .none⟩ = some (pn A (pv i)) := (h.nd i hi).cell (by omega)
  have f0 := (h.nd i hi).frozen 0
  have f1 := (h.nd i hi).frozen 1
  have q3 : w1.cell? ⟨A + 1 + cnt, 3, .none⟩ = some (pn A hd) := h.q.cell (by omega)
  have q4 : w1.cell? ⟨A + 1 + cnt, 4, .none⟩ = some (pn A tl) := h.q.cell (by omega)
  have g3 := h.q.frozen 3
  have g4 := h.q.frozen 4
  cases ep : pv i with
  | none =>
    rw [ep] at c1
    cases en : nx i with
    | none =>
      rw [en] at c0
      refine (unlink_nn _ _ w1 _ _ c0 c1 q3 q4 f0 f1 g3 g4 (by omega) (by omega)).mono ?_
      rintro e w' ⟨rfl, rfl⟩
      refine ⟨rfl, ((((h.setHead none).setTail none).setPrev hi none).setNext hi none).congr ?_ ?_ ?_ ?_ rfl⟩
      · intro x; simp [uNx, ep]
      · intro x; simp [uPv, en]
      · simp [uHd, ep, en]
      · simp [uTl, ep, en]
    | some n =>
      rw [en] at c0
      obtain ⟨hn1, hn2⟩ := hn n en
      have d1 : w1.cell? ⟨A + 1 + n, 1, .none⟩ = some (pn A (pv n)) := (h.nd n hn1).cell (by omega)
      refine (unlink_ns _ _ _ w1 _ _ c0 c1 q3 d1 f0 f1 g3 ((h.nd n hn1).frozen 1) (by omega) (by omega)).mono ?_
      rintro e w' ⟨rfl, rfl⟩
      refine ⟨rfl, ((((h.setHead (some n)).setPrev hn1 none).setPrev hi none).setNext hi none).drew.congr ?_ ?_ ?_ ?_ rfl⟩
      · intro x; simp [uNx, ep]
      · intro x; simp [uPv, en, ep]; split <;> simp [eq_comm]
      · simp [uHd, ep, en]
      · simp [uTl, en]
  | some p =>
    rw [ep] at c1
    obtain ⟨hp1, hp2⟩ := hp p ep
    have d0 : w1.cell? ⟨A + 1 + p, 0, .none⟩ = some (pn A (nx p)) := (h.nd p hp1).cell (by omega)
    cases en : nx i with
    | none =>
      rw [en] at c0
      refine (unlink_sn _ _ _ w1 _ _ c0 c1 d0 q4 f0 f1 ((h.nd p hp1).frozen 0) g4 (by omega) (by omega)).mono ?_
      rintro e w' ⟨rfl, rfl⟩
      refine ⟨rfl, ((((h.setNext hp1 none).setTail (some p)).setPrev hi none).setNext hi none).drew.congr ?_ ?_ ?_ ?_ rfl⟩
      · intro x; simp [uNx, ep, en]; split <;> simp [eq_comm]
      · intro x; simp [uPv, en]
      · simp [uHd, ep]
      · simp [uTl, en, ep]
    | some n =>
      rw [en] at c0
      obtain ⟨hn1, hn2⟩ := hn n en
      have d1 : w1.cell? ⟨A + 1 + n, 1, .none⟩ = some (pn A (pv n)) := (h.nd n hn1).cell (by omega)
      refine (unlink_ss _ _ _ _ w1 _ _ c0 c1 d0 d1 f0 f1 ((h.nd p hp1).frozen 0) ((h.nd n hn1).frozen 1) (by omega) (by omega)).mono ?_
      rintro e w' ⟨rfl, rfl⟩
      refine ⟨rfl, ((((h.setNext hp1 (some n)).setPrev hn1 (some p)).setPrev hi none).setNext hi none).drew.drew.congr ?_ ?_ ?_ ?_ rfl⟩
      · intro x; simp [uNx, ep, en]; split <;> simp [eq_comm]
      · intro x; simp [uPv, en, ep]; split <;> simp [eq_comm]
      · simp [uHd, ep]
      · simp [uTl, en]

end Go.Proofs.Ybulkbdhc
