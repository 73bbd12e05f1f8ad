import Derived.Test.YbulkbdhcList
namespace Go.Proofs.Ybulkbdhc
open Go.RowKit Go.Deep
set_option linter.unusedVariables false

/-- the block of a fresh waiter -/
abbrev freshCells (k : Nat) : Array Value := #[.pointer .none, .pointer .none, .int .i64 k, .chan .none, .int .u64 0, .int .i64 0, .pointer .none, .bool false, .chan .none, .int .u32 0, .int .u32 0]

theorem freshCells_eq (A k o : Nat) (h : o < 11) : (freshCells k)[o]? = some (nodeF A k .none .none o) := by
  match o, h with
  | 0, _ => rfl
  | 1, _ => rfl
  | 2, _ => rfl
  | 3, _ => rfl
  | 4, _ => rfl
  | 5, _ => rfl
  | 6, _ => rfl
  | 7, _ => rfl
  | 8, _ => rfl
  | 9, _ => rfl
  | 10, _ => rfl

/-- after k rounds of the first loop -/
structure S1 (w : World) (cnt k : Nat) (wr : World) : Prop where
  size : wr.heap.size = w.heap.size + 1 + k
  below : Below w.heap.size w wr
  ws : wr.rowIs w.heap.size 25 cnt (fun i => .pointer (if i < k then pa w.heap.size (some i) else .none))
  nd : ∀ i, i < k → wr.rowIs (w.heap.size + 1 + i) 39 11 (nodeF w.heap.size i .none .none)

theorem S1.step {w wr : World} {cnt k : Nat} (h : S1 w cnt k wr) (hk : k < cnt) :
    S1 w cnt (k + 1) ((wr.setCell ⟨w.heap.size, k, .none⟩ (.pointer (some ⟨w.heap.size + 1 + k, 0, .none⟩))).alloc (.cells (freshCells k) 39)) := by
  have hs := h.size
  refine ⟨by simp; omega, (h.below.setCell (Nat.le_refl _) _).alloc (by simp; omega) _, ?_, ?_⟩
  · refine ((h.ws.set k _).alloc _).congr fun i hi => ?_
    by_cases e : i = k
    · subst e; rw [if_pos rfl, if_pos (by omega)]; rfl
    · rw [if_neg e]
      by_cases e2 : i < k
      · rw [if_pos e2, if_pos (by omega)]
      · rw [if_neg e2, if_neg (by omega)]
  · intro i hi
    by_cases e : i = k
    · subst e
      have := World.rowIs_alloc (wr.setCell ⟨w.heap.size, i, .none⟩ (.pointer (some ⟨w.heap.size + 1 + i, 0, .none⟩))) (freshCells i) 39 (nodeF w.heap.size i .none .none) (fun o ho => freshCells_eq _ _ _ ho)
      rw [World.size_setCell, hs] at this
      exact this
    · exact ((h.nd i (by omega)).setOther (by simp; omega) _).alloc _

/-- after j rounds of the second loop: the first j links are laid -/
def linkN (j : Nat) : Nat → Option Nat := fun i => if i < j then some (i + 1) else .none
def linkP (j : Nat) : Nat → Option Nat := fun i => if 1 ≤ i ∧ i ≤ j then some (i - 1) else .none

structure S2 (w : World) (cnt j : Nat) (wr : World) : Prop where
  size : wr.heap.size = w.heap.size + 1 + cnt
  below : Below w.heap.size w wr
  ws : wr.rowIs w.heap.size 25 cnt (fun i => pn w.heap.size (some i))
  nd : ∀ i, i < cnt → wr.rowIs (w.heap.size + 1 + i) 39 11 (nodeF w.heap.size i (linkN j i) (linkP j i))

theorem S2.drew {w wr : World} {cnt j : Nat} (h : S2 w cnt j wr) : S2 w cnt j wr.drew := ⟨h.size, h.below.drew, h.ws.drew, fun i hi => (h.nd i hi).drew⟩

theorem S1.toS2 {w wr : World} {cnt : Nat} (h : S1 w cnt cnt wr) : S2 w cnt 0 wr :=
  ⟨h.size, h.below, h.ws.congr fun i hi => by rw [if_pos hi], fun i hi => by
    have e1 : linkN 0 i = .none := by simp [linkN]
    have e2 : linkP 0 i = .none := by simp [linkP]; omega
    rw [e1, e2]; exact h.nd i hi⟩

theorem node_set0 {w : World} {b A i : Nat} {x p v : Option Nat} (h : w.rowIs b 39 11 (nodeF A i x p)) : (w.setCell ⟨b, 0, .none⟩ (pn A v)).rowIs b 39 11 (nodeF A i v p) := by
  refine (h.set 0 (pn A v)).congr fun o ho => ?_
  match o, ho with
  | 0, _ => rfl
  | 1, _ => rfl
  | 2, _ => rfl
  | 3, _ => rfl
  | 4, _ => rfl
  | 5, _ => rfl
  | 6, _ => rfl
  | 7, _ => rfl
  | 8, _ => rfl
  | 9, _ => rfl
  | 10, _ => rfl

theorem node_set1 {w : World} {b A i : Nat} {x p v : Option Nat} (h : w.rowIs b 39 11 (nodeF A i x p)) : (w.setCell ⟨b, 1, .none⟩ (pn A v)).rowIs b 39 11 (nodeF A i x v) := by
  refine (h.set 1 (pn A v)).congr fun o ho => ?_
  match o, ho with
  | 0, _ => rfl
  | 1, _ => rfl
  | 2, _ => rfl
  | 3, _ => rfl
  | 4, _ => rfl
  | 5, _ => rfl
  | 6, _ => rfl
  | 7, _ => rfl
  | 8, _ => rfl
  | 9, _ => rfl
  | 10, _ => rfl

theorem S2.step {w wr : World} {cnt j : Nat} (h : S2 w cnt j wr) (hj : j + 1 < cnt) :
    S2 w cnt (j + 1) ((wr.setCell ⟨w.heap.size + 1 + j, 0, .none⟩ (.pointer (some ⟨w.heap.size + 1 + (j + 1), 0, .none⟩))).setCell ⟨w.heap.size + 1 + (j + 1), 1, .none⟩ (.pointer (some ⟨w.heap.size + 1 + j, 0, .none⟩))) := by
  have hs := h.size
  refine ⟨by simp; omega, (h.below.setCell (by simp; omega) _).setCell (by simp; omega) _, (h.ws.setOther (by simp; omega) _).setOther (by simp; omega) _, fun i hi => ?_⟩
  have hn := h.nd i hi
  by_cases e1 : i = j
  · subst e1
    have q := (node_set0 (v := some (i + 1)) hn).setOther (a := ⟨w.heap.size + 1 + (i + 1), 1, .none⟩) (by simp) (.pointer (some ⟨w.heap.size + 1 + i, 0, .none⟩))
    have a1 : linkN (i + 1) i = some (i + 1) := by simp [linkN]
    have a2 : linkP (i + 1) i = linkP i i := by simp [linkP]
    rw [a1, a2]; exact q
  · by_cases e2 : i = j + 1
    · subst e2
      have q := node_set1 (v := some j) (hn.setOther (a := ⟨w.heap.size + 1 + j, 0, .none⟩) (by simp) (.pointer (some ⟨w.heap.size + 1 + (j + 1), 0, .none⟩)))
      have a1 : linkN (j + 1) (j + 1) = linkN j (j + 1) := by simp [linkN]
      have a2 : linkP (j + 1) (j + 1) = some j := by simp [linkP]
      rw [a1, a2]; exact q
    · have a1 : linkN (j + 1) i = linkN j i := by
        unfold linkN
        by_cases e : i < j
        · rw [if_pos e, if_pos (by omega)]
        · rw [if_neg e, if_neg (by omega)]
      have a2 : linkP (j + 1) i = linkP j i := by
        unfold linkP
        by_cases e : 1 ≤ i ∧ i ≤ j
        · rw [if_pos e, if_pos (by omega)]
        · rw [if_neg e, if_neg (by omega)]
      rw [a1, a2]
      exact (hn.setOther (by simp; omega) _).setOther (by simp; omega) _

/-- behind the queue's and the model's making -/
theorem S2.toSh {w wr : World} {n : Nat} {pe ha : Int} (h : S2 w (n + 1) n wr) :
    Sh w w.heap.size (n + 1) pe ha (linkN n) (linkP n) (some 0) (some n) (fun _ => 0)
      ((wr.alloc (.cells #[.int .u32 0, .int .u32 pe, .int .u32 ha, .pointer (some ⟨w.heap.size + 1 + 0, 0, .none⟩), .pointer (some ⟨w.heap.size + 1 + n, 0, .none⟩), .pointer .none] 42)).alloc (.cells (madeCells #[.int .i64 0] (n + 1)) 3)) := by
  have hs := h.size
  refine ⟨Nat.le_refl _, (h.ws.alloc _).alloc _, fun i hi => ((h.nd i hi).alloc _).alloc _, ?_, ?_, (h.below.alloc (by omega) _).alloc (by simp; omega) _⟩
  · have q := World.rowIs_alloc wr #[.int .u32 0, .int .u32 pe, .int .u32 ha, .pointer (some ⟨w.heap.size + 1 + 0, 0, .none⟩), .pointer (some ⟨w.heap.size + 1 + n, 0, .none⟩), .pointer .none] 42 (queueF w.heap.size pe ha (some 0) (some n)) (fun o ho => by
      match o, ho with
      | 0, _ => rfl
      | 1, _ => rfl
      | 2, _ => rfl
      | 3, _ => rfl
      | 4, _ => rfl
      | 5, _ => rfl)
    rw [hs] at q
    exact q.alloc _
  · have q := World.rowIs_made (wr.alloc (.cells #[.int .u32 0, .int .u32 pe, .int .u32 ha, .pointer (some ⟨w.heap.size + 1 + 0, 0, .none⟩), .pointer (some ⟨w.heap.size + 1 + n, 0, .none⟩), .pointer .none] 42)) (.int .i64 0) (n + 1) 3
    have e : (wr.alloc (.cells #[.int .u32 0, .int .u32 pe, .int .u32 ha, .pointer (some ⟨w.heap.size + 1 + 0, 0, .none⟩), .pointer (some ⟨w.heap.size + 1 + n, 0, .none⟩), .pointer .none] 42)).heap.size = w.heap.size + 1 + (n + 1) + 1 := by simp; omega
    rw [e] at q
    exact q

theorem Sh.setModel {w0 w1 : World} {A cnt : Nat} {pe ha : Int} {nx pv : Nat → Option Nat} {hd tl : Option Nat} {m : Nat → Nat} (h : Sh w0 A cnt pe ha nx pv hd tl m w1) (j v : Nat) :
    Sh w0 A cnt pe ha nx pv hd tl (fun x => if x = j then v else m x) (w1.setCell ⟨A + 1 + cnt + 1, j, .none⟩ (.int .i64 v)) := by
  have hb := h.base
  refine ⟨hb, h.ws.setOther (by simp <;> omega) _, fun i hi => (h.nd i hi).setOther (by simp <;> omega) _, h.q.setOther (by simp <;> omega) _, (h.md.set j _).congr fun i hi => ?_, h.below.setCell (by simp <;> omega) _⟩
  by_cases e : i = j
  · rw [if_pos e, if_pos e]
  · rw [if_neg e, if_neg e]

/-- the whole chain 0 .. n -/
theorem Lk.range (n : Nat) : Lk (List.range (n + 1)) (n + 1) (linkN n) (linkP n) (some 0) (some n) := by
  have hat : ∀ k x, (List.range (n + 1))[k]? = some x → x = k ∧ k < n + 1 := by
    intro k x h
    obtain ⟨hl, e⟩ := List.getElem?_eq_some_iff.1 h
    simp at hl e
    exact ⟨e.symm, hl⟩
  refine ⟨by simp [List.head?_eq_getElem?], by simp [List.getLast?_eq_getElem?], ?_, ?_, List.nodup_range, fun x hx => List.mem_range.1 hx⟩
  · intro k x h
    obtain ⟨rfl, hk⟩ := hat k x h
    unfold linkN
    by_cases e : x < n
    · rw [if_pos e, List.getElem?_range (by omega)]
    · rw [if_neg e, List.getElem?_eq_none (by simp; omega)]
  · intro k x h
    obtain ⟨rfl, hk⟩ := hat k x h
    unfold linkP
    by_cases e : x = 0
    · rw [if_pos e, if_neg (by omega)]
    · rw [if_neg e, if_pos (by omega), List.getElem?_range (by omega)]

/-- the cells that the append moves one to the left -/
def moved (m : Nat → Nat) (i L : Nat) : List Value := (List.range (L - (i + 1))).map fun j => .int .i64 (m (i + 1 + j))

theorem moved_length (m : Nat → Nat) (i L : Nat) : (moved m i L).length = L - (i + 1) := by simp [moved]
theorem moved_get (m : Nat → Nat) {i L j : Nat} (h : j < L - (i + 1)) : (moved m i L)[j]? = some (.int .i64 (m (i + 1 + j))) := by
  simp [moved, h]

theorem rowIs_setCells {b t n : Nat} : ∀ (vs : List Value) (o : Nat) (w : World) (f : Nat → Value), w.rowIs b t n f → (w.setCells b o vs).rowIs b t n (fun j => if o ≤ j ∧ j < o + vs.length then vs.getD (j - o) (.bool false) else f j)
  | [], o, w, f, h => h.congr fun i _ => by rw [if_neg (by simp only [List.length_nil]; omega)]
  | v :: r, o, w, f, h => by
    refine (rowIs_setCells r (o + 1) _ _ (h.set o v)).congr fun i _ => ?_
    by_cases e1 : i = o
    · subst e1
      rw [if_neg (by omega), if_pos rfl, if_pos (by simp)]; simp
    · by_cases e2 : o + 1 ≤ i ∧ i < o + 1 + r.length
      · rw [if_pos e2, if_pos (by simp; omega)]
        have : i - o = (i - (o + 1)) + 1 := by omega
        rw [this]; simp
      · rw [if_neg e2, if_neg e1, if_neg (by simp; omega)]

theorem heap_setCells_ne {b : Nat} : ∀ (vs : List Value) (o : Nat) (w : World) (k : Nat), k ≠ b → (w.setCells b o vs).heap[k]? = w.heap[k]?
  | [], _, _, _, _ => rfl
  | v :: r, o, w, k, h => by
    rw [World.setCells, heap_setCells_ne r (o + 1) _ k h]
    exact Below.heap_setCell w ⟨b, o, .none⟩ v k h

theorem below_setCells' {B b : Nat} {a : World} (hb : B ≤ b) : ∀ (vs : List Value) (o : Nat) (w : World), Below B a w → Below B a (w.setCells b o vs)
  | [], _, _, h => h
  | v :: r, o, w, h => below_setCells' hb r (o + 1) _ (h.setCell hb v)

theorem Sh.shift {w0 w1 : World} {A cnt : Nat} {pe ha : Int} {nx pv : Nat → Option Nat} {hd tl : Option Nat} {m : Nat → Nat} (h : Sh w0 A cnt pe ha nx pv hd tl m w1) {i L : Nat} (hi : i < L) (hL : L ≤ cnt) :
    Sh w0 A cnt pe ha nx pv hd tl (fun x => if i ≤ x ∧ x + 1 < L then m (x + 1) else m x) (w1.setCells (A + 1 + cnt + 1) i (moved m i L)) := by
  have hb := h.base
  refine ⟨hb, h.ws.of_block (heap_setCells_ne _ _ _ _ (by omega)), fun k hk => (h.nd k hk).of_block (heap_setCells_ne _ _ _ _ (by omega)), h.q.of_block (heap_setCells_ne _ _ _ _ (by omega)), (rowIs_setCells _ _ _ _ h.md).congr fun x hx => ?_, below_setCells' (by omega) _ _ _ h.below⟩
  rw [moved_length]
  by_cases e : i ≤ x ∧ x + 1 < L
  · rw [if_pos (by omega), if_pos e, List.getD_eq_getElem?_getD, moved_get m (by omega)]
    simp only [Option.getD_some]
    rw [show i + 1 + (x - i) = x + 1 by omega]
  · rw [if_neg (by omega), if_neg e]

theorem model_erase {l : List Nat} {m : Nat → Nat} (hm : ∀ k x, l[k]? = some x → m k = x) {i : Nat} (hi : i < l.length) :
    ∀ k x, (l.eraseIdx i)[k]? = some x → (if i ≤ k ∧ k + 1 < l.length then m (k + 1) else m k) = x := by
  intro k x h
  rw [erase_at] at h
  by_cases e : k < i
  · rw [if_pos e] at h; rw [if_neg (by omega)]; exact hm k x h
  · rw [if_neg e] at h
    have := (List.getElem?_eq_some_iff.1 h).1
    rw [if_pos (by omega)]; exact hm (k + 1) x h

end Go.Proofs.Ybulkbdhc
