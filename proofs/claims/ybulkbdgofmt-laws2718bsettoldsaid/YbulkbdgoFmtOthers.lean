import Derived.Test.YbulkbdgoFmtHex
namespace Go.Proofs.YbulkbdgoFmt
open Go.RowKit Go.Deep
set_option linter.unusedVariables false

/-- the struct's fields in block P -/
def Fs (w : World) (P : Nat) (f : Nat → Value) (g : Nat → List UInt8) : Prop :=
  w.cell? ⟨P, 0, .none⟩ = some (.string ⟨#[98]⟩) ∧ ∀ i, i < 5 → w.cell? ⟨P, i + 1, .none⟩ = some (f i) ∧ FV w P (f i) (g i)

theorem Fs.below {w w' : World} {P : Nat} {f : Nat → Value} {g : Nat → List UInt8} (h : Fs w P f g) (hb : Below w.heap.size w w') : Fs w' P f g := by
  obtain ⟨h1, h2⟩ := h
  have hP := block_lt_of_cell h1
  refine ⟨by rw [hb.cell hP]; exact h1, fun i hi => ?_⟩
  obtain ⟨h3, h4⟩ := h2 i hi
  exact ⟨by rw [hb.cell (p := ⟨P, i + 1, .none⟩) hP]; exact h3, h4.below hb⟩

theorem equal_any (v1 v2 : Value) (l1 l2 : List UInt8) (w : World) (h1 : Bs w v1 l1) (h2 : Bs w v2 l2) :
    Calls Ybaf.prog 12 #[v1, v2] w fun e w' => e = .returned (.bool (l1 == l2)) ∧ w' = w := by
  obtain ⟨p1, c1, rfl, b1⟩ := h1
  obtain ⟨p2, c2, rfl, b2⟩ := h2
  have := Ybaf.bytes_Equal_all p1 p2 l1.length c1 l2.length c2 (zs l1) (zs l2) w (zs_length l1) (zs_length l2) b1 b2
  rw [zs_bytes, zs_bytes] at this
  exact this

set_option maxHeartbeats 1600000 in
theorem others_any (P k : Nat) (f : Nat → Value) (g : Nat → List UInt8) (vo : Value) (lo : List UInt8) (w : World) (hF : Fs w P f g) (hk : k < 5) (hg : ∀ j, j < 5 → j ≠ k → g j = lo) (ho : Bs w vo lo) :
    Calls Ybaf.prog 13 #[.pointer (some ⟨P, 0, .none⟩), .int .i64 k, vo] w fun e w' => e = .returned (.bool true) ∧ w' = w := by
  have hPl := block_lt_of_cell hF.1
  go_enter Ybaf.func13, Ybaf.ntmps13
  go_wp2
  go_loopw [7] (fun iv wr => ∃ j : Nat, j ≤ 5 ∧ iv = .int .i64 j ∧ wr = w) (fun iv _ => 5 - (intOf iv).toNat)
  case atStart => exact ⟨0, by omega, rfl, rfl⟩
  case round =>
    obtain ⟨j, hj, rfl, rfl⟩ := hrel
    by_cases hlt : j < 5
    · have hlt' : (j : Int) < 5 := by omega
      by_cases hjk : j = k
      · have hjk' : (j : Int) = k := by omega
        subst hjk
        go_wp2
        go_roundw
        case rel => exact ⟨j + 1, by omega, by go_num, trivial⟩
        case measure => simp [intOf]; omega
      · have hjk' : ¬ (j : Int) = k := by omega
        obtain ⟨hc, hv⟩ := hF.2 j hlt
        have he := equal_any (f j) vo (g j) lo wr hv.bs ho
        rw [hg j hlt hjk, show (lo == lo) = true by simp] at he
        have HE : Hid (Calls Ybaf.prog 12 #[f j, vo] wr fun e w' => e = .returned (.bool true) ∧ w' = wr) := he
        clear he hv
        generalize f j = fj at *
        have HH : Hid (∀ j, j < 5 → j ≠ k → g j = lo) := hg
        clear hg
        go_wp2_with fail
        refine (pick_any P j hlt _ hPl).mono ?_
        rintro e w2 ⟨rfl, rfl⟩
        go_wp2_with fail
        refine HE.out.mono ?_
        rintro e w3 ⟨rfl, rfl⟩
        go_wp2
        go_roundw
        case rel => exact ⟨j + 1, by omega, by go_num, trivial⟩
        case measure => simp [intOf]; omega
    · have h0 := hF.1
      clear hg
      go_wp2
      go_ret
      exact ⟨rfl, rfl⟩
/-! ### the plain law of the digits -/
theorem dg_val (up : Bool) : ∀ d : Fin 16, Lib.Hx.v (dg up d.val) = d.val := by
  cases up <;> decide

theorem dg_v (up : Bool) (d : Nat) (h : d < 16) : Lib.Hx.v (dg up d) = d := dg_val up ⟨d, h⟩

theorem decode_hexOf (up : Bool) : ∀ l : List UInt8, Lib.Hx.decode (hexOf up l) = (l, .ok)
  | [] => Lib.Hx.decode_nil
  | a :: t => by
    have e : hexOf up (a :: t) = dg up (a.toNat / 16) :: dg up (a.toNat % 16) :: hexOf up t := rfl
    have ha := a.toNat_lt
    rw [e, Lib.Hx.decode_two, dg_v up _ (by omega), dg_v up _ (by omega), if_neg (by omega), if_neg (by omega), decode_hexOf up t]
    congr 2
    rw [show a.toNat / 16 * 16 + a.toNat % 16 = a.toNat by omega]
    exact UInt8.ofNat_toNat

theorem parse_hexOf (up : Bool) (l : List UInt8) (lim : Int) : parse (hexOf up l) lim = if 1 ≤ l.length ∧ (l.length : Int) ≤ lim then some l else none := by
  unfold parse
  by_cases h : l = []
  · subst h
    rw [if_pos (show hexOf up [] = [] from rfl), if_neg (by simp)]
  · have hl : 1 ≤ l.length := by
      cases l with
      | nil => exact absurd rfl h
      | cons a t => simp
    have hh : ¬ hexOf up l = [] := fun e => by
      have := hexOf_length up l
      rw [e] at this
      simp at this
      omega
    rw [if_neg hh, decode_hexOf]
    by_cases h2 : lim < (l.length : Int)
    · simp only [if_pos h2]
      rw [if_neg (by omega)]
    · simp only [if_neg h2]
      rw [if_pos ⟨hl, by omega⟩]

/-! ### the state of the law -/
theorem FV.setOther {w : World} {P o : Nat} {v u : Value} {l : List UInt8} (h : FV w P v l) : FV (w.setCell ⟨P, o, .none⟩ u) P v l := by
  rcases h with h | ⟨b, c, q1, q2, q3, q4⟩
  · exact .inl h
  · refine .inr ⟨b, c, q1, q2, by simpa using q3, fun i hi => ?_⟩
    rw [World.cell?_of_block (w := w) (Below.heap_setCell w _ u b q2)]
    exact q4 i hi

structure Ls (w0 : World) (K P E L F k : Nat) (lim : Int) (f : Nat → Value) (g : Nat → List UInt8) (w : World) : Prop where
  below : Below w0.heap.size w0 w
  base : w0.heap.size ≤ P
  row : w.rowIs P 26 22 f
  cb : f 0 = .string ⟨#[98]⟩
  fv : ∀ i, i < 5 → FV w P (f (i + 1)) (g i)
  cK : w.cell? ⟨K, 0, .none⟩ = some (.int .i64 k)
  cE1 : w.cell? ⟨E, 1, .none⟩ = some (.func (.func 19) #[] #[.pointer (some ⟨L, 0, .none⟩), .pointer (some ⟨F, 0, .none⟩)])
  cE2 : w.cell? ⟨E, 2, .none⟩ = some (.func (.func 21) #[] #[.pointer (some ⟨F, 0, .none⟩)])
  cL : w.cell? ⟨L, 0, .none⟩ = some (.int .i64 lim)
  cF : w.cell? ⟨F, 0, .none⟩ = some (.func (.func 15) #[] #[.pointer (some ⟨K, 0, .none⟩)])
  nK : K ≠ P
  nE : E ≠ P
  nL : L ≠ P
  nF : F ≠ P

variable {w0 w w' : World} {K P E L F k : Nat} {lim : Int} {f : Nat → Value} {g : Nat → List UInt8}

theorem Ls.next (h : Ls w0 K P E L F k lim f g w) (hb : Below w.heap.size w w') : Ls w0 K P E L F k lim f g w' := by
  have c : ∀ (a : Addr) v, w.cell? a = some v → w'.cell? a = some v := fun a v ha => by rw [hb.cell (block_lt_of_cell ha)]; exact ha
  exact ⟨h.below.trans (hb.mono h.below.size), h.base, h.row.of_block (hb.block _ h.row.lt), h.cb, fun i hi => (h.fv i hi).below hb, c _ _ h.cK, c _ _ h.cE1, c _ _ h.cE2, c _ _ h.cL, c _ _ h.cF, h.nK, h.nE, h.nL, h.nF⟩

theorem Ls.put (h : Ls w0 K P E L F k lim f g w) (hk : k < 5) {v : Value} {l : List UInt8} (hv : FV w P v l) : Ls w0 K P E L F k lim (fun j => if j = k + 1 then v else f j) (fun i => if i = k then l else g i) (w.setCell ⟨P, k + 1, .none⟩ v) := by
  have c : ∀ (a : Addr) u, a.block ≠ P → w.cell? a = some u → (w.setCell ⟨P, k + 1, .none⟩ v).cell? a = some u := fun a u hne ha => by
    rw [World.cell?_of_block (w := w) (Below.heap_setCell w _ v a.block hne)]; exact ha
  refine ⟨h.below.setCell h.base v, h.base, h.row.set _ _, by rw [if_neg (by omega)]; exact h.cb, fun i hi => ?_, c _ _ h.nK h.cK, c _ _ h.nE h.cE1, c _ _ h.nE h.cE2, c _ _ h.nL h.cL, c _ _ h.nF h.cF, h.nK, h.nE, h.nL, h.nF⟩
  by_cases e : i = k
  · subst e
    simp only [if_pos]
    exact hv.setOther
  · rw [if_neg (by omega), if_neg e]
    exact (h.fv i hi).setOther

theorem Ls.fs (h : Ls w0 K P E L F k lim f g w) : Fs w P (fun i => f (i + 1)) g :=
  ⟨by rw [h.row.cell (by omega), h.cb], fun i hi => ⟨h.row.cell (by omega), h.fv i hi⟩⟩

theorem Ls.bs (h : Ls w0 K P E L F k lim f g w) {v : Value} {l : List UInt8} (hb : Bs w0 v l) : Bs w v l := hb.below h.below

/-- the same, ahead of the element -/
structure Lr (w0 : World) (K P k : Nat) (f : Nat → Value) (g : Nat → List UInt8) (w : World) : Prop where
  below : Below w0.heap.size w0 w
  base : w0.heap.size ≤ P
  row : w.rowIs P 26 22 f
  cb : f 0 = .string ⟨#[98]⟩
  fv : ∀ i, i < 5 → FV w P (f (i + 1)) (g i)
  cK : w.cell? ⟨K, 0, .none⟩ = some (.int .i64 k)
  nK : K ≠ P

theorem Lr.start {w0 w2 : World} {K k : Nat} {v0 v1 v2 v3 v4 : Value} {lo : List UInt8} (hb : Below w0.heap.size w0 w2) (hK : K < w2.heap.size) (cK : w2.cell? ⟨K, 0, .none⟩ = some (.int .i64 k))
    (hf : FV w2 w2.heap.size v0 lo ∧ FV w2 w2.heap.size v1 lo ∧ FV w2 w2.heap.size v2 lo ∧ FV w2 w2.heap.size v3 lo ∧ FV w2 w2.heap.size v4 lo) :
    Lr w0 K w2.heap.size k (pF v0 v1 v2 v3 v4) (fun _ => lo) (w2.alloc (.cells (pC v0 v1 v2 v3 v4) 26)) := by
  have hbn : Below w2.heap.size w2 (w2.alloc (.cells (pC v0 v1 v2 v3 v4) 26)) := (Below.refl _ _).alloc (Nat.le_refl _) _
  obtain ⟨f0, f1, f2, f3, f4⟩ := hf
  refine ⟨hb.trans (hbn.mono hb.size), hb.size, World.rowIs_alloc w2 _ 26 _ (fun o ho => pC_at _ _ _ _ _ o ho), rfl, fun i hi => ?_, by rw [hbn.cell (block_lt_of_cell cK)]; exact cK, by omega⟩
  match i, hi with
  | 0, _ => exact f0.below hbn
  | 1, _ => exact f1.below hbn
  | 2, _ => exact f2.below hbn
  | 3, _ => exact f3.below hbn
  | 4, _ => exact f4.below hbn

theorem Lr.elem {w0 w3 w4 : World} {K P L F k : Nat} {lim : Int} {f : Nat → Value} {g : Nat → List UInt8} (h : Lr w0 K P k f g w3) (hb : Below w3.heap.size w3 w4) (hL : w3.heap.size ≤ L) (hF : w3.heap.size ≤ F)
    (cL : w4.cell? ⟨L, 0, .none⟩ = some (.int .i64 lim)) (cF : w4.cell? ⟨F, 0, .none⟩ = some (.func (.func 15) #[] #[.pointer (some ⟨K, 0, .none⟩)])) (nm : ByteArray) :
    Ls w0 K P w4.heap.size L F k lim f g (w4.alloc (.cells #[.string nm, .func (.func 19) #[] #[.pointer (some ⟨L, 0, .none⟩), .pointer (some ⟨F, 0, .none⟩)], .func (.func 21) #[] #[.pointer (some ⟨F, 0, .none⟩)]] 31)) := by
  have hPl := h.row.lt
  have hs := hb.size
  have hbn : Below w4.heap.size w4 (w4.alloc (.cells #[.string nm, .func (.func 19) #[] #[.pointer (some ⟨L, 0, .none⟩), .pointer (some ⟨F, 0, .none⟩)], .func (.func 21) #[] #[.pointer (some ⟨F, 0, .none⟩)]] 31)) := (Below.refl _ _).alloc (Nat.le_refl _) _
  have hb2 := hb.trans (hbn.mono hs)
  refine ⟨h.below.trans (hb2.mono h.below.size), h.base, h.row.of_block (hb2.block _ hPl), h.cb, fun i hi => (h.fv i hi).below hb2, by rw [hb2.cell (block_lt_of_cell h.cK)]; exact h.cK, by go_simp, by go_simp, by rw [hbn.cell (block_lt_of_cell cL)]; exact cL, by rw [hbn.cell (block_lt_of_cell cF)]; exact cF, h.nK, by omega, by omega, by omega⟩

end Go.Proofs.YbulkbdgoFmt
