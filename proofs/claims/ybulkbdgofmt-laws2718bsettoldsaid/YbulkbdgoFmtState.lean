import Derived.Test.YbulkbdgoFmtErr
import Derived.Laws.EntriesVeiled
namespace Go.Proofs.YbulkbdgoFmt
open Go.RowKit Go.Deep
set_option linter.unusedVariables false

def zs (l : List UInt8) : List Int := l.map fun b => (b.toNat : Int)

theorem zs_length (l : List UInt8) : (zs l).length = l.length := by simp [zs]

theorem zs_bytes (l : List UInt8) : Lib.bytesOf (zs l) = l := by
  unfold zs Lib.bytesOf
  rw [List.map_map]
  conv => rhs; rw [← List.map_id l]
  apply List.map_congr_left
  intro b _
  simp

theorem zs_range (l : List UInt8) (i : Nat) (h : i < l.length) : 0 ≤ (zs l).getD i 0 ∧ (zs l).getD i 0 < 256 := by
  have : (zs l).getD i 0 = (l[i].toNat : Int) := by simp [zs, List.getD, h]
  rw [this]
  have := l[i].toNat_lt
  omega

/-- the value reads as the bytes l -/
def Bs (w : World) (v : Value) (l : List UInt8) : Prop := ∃ p c, v = .slice p l.length c ∧ Lib.BytesIn w p l.length (zs l)

/-- the field's value: bytes of its own, off block P -/
def FV (w : World) (P : Nat) (v : Value) (l : List UInt8) : Prop :=
  (v = .slice .none 0 0 ∧ l = []) ∨ ∃ b c, v = .slice (some ⟨b, 0, .none⟩) l.length c ∧ b ≠ P ∧ b < w.heap.size ∧ ∀ i, i < l.length → w.cell? ⟨b, 0 + i, .none⟩ = some (.int .u8 ((zs l).getD i 0))

theorem FV.below {w w' : World} {P : Nat} {v : Value} {l : List UInt8} (h : FV w P v l) (hb : Below w.heap.size w w') : FV w' P v l := by
  rcases h with h | ⟨b, c, h1, h2, h3, h4⟩
  · exact .inl h
  · refine .inr ⟨b, c, h1, h2, by have := hb.size; omega, fun i hi => ?_⟩
    rw [hb.cell h3]
    exact h4 i hi

theorem FV.slice {w : World} {P : Nat} {v : Value} {l : List UInt8} (h : FV w P v l) : ∃ p n c, v = .slice p n c := by
  rcases h with ⟨rfl, _⟩ | ⟨b, c, rfl, _⟩
  · exact ⟨_, _, _, rfl⟩
  · exact ⟨_, _, _, rfl⟩

theorem FV.bs {w : World} {P : Nat} {v : Value} {l : List UInt8} (h : FV w P v l) : Bs w v l := by
  rcases h with ⟨rfl, rfl⟩ | ⟨b, c, rfl, h2, h3, h4⟩
  · exact ⟨.none, 0, rfl, Lib.BytesIn.nil _ _ _⟩
  · exact ⟨_, c, rfl, fun _ => ⟨b, 0, rfl, h4⟩⟩

theorem Bs.below {w w' : World} {v : Value} {l : List UInt8} (h : Bs w v l) (hb : Below w.heap.size w w') : Bs w' v l := by
  obtain ⟨p, c, rfl, h2⟩ := h
  refine ⟨p, c, rfl, fun hn => ?_⟩
  obtain ⟨b, o, rfl, h3⟩ := h2.at hn
  refine ⟨b, o, rfl, fun i hi => ?_⟩
  have h4 := h3 i hi
  have hlt := block_lt_of_cell h4
  rw [hb.cell (p := ⟨b, o + i, .none⟩) hlt]
  exact h4

theorem of_owns {w : World} {base P : Nat} {v : Value} {l : List UInt8} (h : w.ownsRow base 5 1 v l.length ((zs l).map (Value.int .u8))) (hP : w.heap.size ≤ P ∨ P < base) : FV w P v l := by
  obtain ⟨h1, ⟨rfl, h2⟩ | ⟨g, cap, cur, rfl, h3, h4, h5, h6, h7, h8⟩⟩ := h
  · exact .inl ⟨rfl, List.eq_nil_of_length_eq_zero h2⟩
  · have hg : g < w.heap.size := by
      rcases Nat.lt_or_ge g w.heap.size with h | h
      · exact h
      · rw [Array.getElem?_eq_none h] at h4; cases h4
    refine .inr ⟨g, cap, rfl, by omega, hg, fun i hi => ?_⟩
    simp only [Nat.zero_add]
    have e : cur[i]? = some (.int .u8 ((zs l).getD i 0)) := by
      have e1 : cur.toList[i]? = (cur.toList.take (l.length * 1))[i]? := by rw [List.getElem?_take]; simp [hi]
      rw [← Array.getElem?_toList, e1, h8]
      simp [zs, List.getD, hi]
    simp [World.cell?, h4, e]

theorem clone_any (v : Value) (l : List UInt8) (w : World) (h : Bs w v l) (hl : l.length ≤ 512) :
    Calls Ybaf.prog 18 #[v] w fun e w' => ∃ v', e = .returned v' ∧ Below w.heap.size w w' ∧ ∀ P, w'.heap.size ≤ P ∨ P < w.heap.size → FV w' P v' l := by
  obtain ⟨p, c, rfl, hb⟩ := h
  cases p with
  | none =>
    have hl0 : l = [] := by
      cases l with
      | nil => rfl
      | cons a t => obtain ⟨b, o, h, _⟩ := hb (by simp); cases h
    subst hl0
    refine (Ybaf.bytes_Clone_nil _ c w).mono ?_
    rintro e w' ⟨rfl, rfl⟩
    exact ⟨_, rfl, Below.refl _ _, fun P _ => .inl ⟨rfl, rfl⟩⟩
  | some a =>
    refine (Ybaf.bytes_Clone_at a l.length c (zs l) w (zs_length l) (by omega) (fun i hi => ?_)).mono ?_
    · obtain ⟨b, o, hbo, hc⟩ := hb (by omega)
      cases hbo
      rw [Go.WideShapes.add_plain]
      exact hc i hi
    · rintro e w' ⟨v', rfl, h1, h2, h3⟩
      exact ⟨v', rfl, h3, fun P hP => of_owns h1 hP⟩

theorem pick_any (P : Nat) (k : Nat) (hk : k < 5) (w : World) (hP : P < w.heap.size) :
    Calls Ybaf.prog 10 #[.pointer (some ⟨P, 0, .none⟩), .int .i64 k] w fun e w' => e = .returned (.pointer (some ⟨P, k + 1, .none⟩)) ∧ w' = w := by
  have hks : k = 0 ∨ k = 1 ∨ k = 2 ∨ k = 3 ∨ k = 4 := by omega
  clear hk
  rcases hks with rfl | rfl | rfl | rfl | rfl
  all_goals
    go_enter Ybaf.func10, Ybaf.ntmps10
    go_wp2
    go_ret
    exact ⟨rfl, rfl⟩

theorem pick15 (P K : Nat) (k : Nat) (hk : k < 5) (w : World) (hP : P < w.heap.size) (hK : w.cell? ⟨K, 0, .none⟩ = some (.int .i64 k)) :
    Calls Ybaf.prog 15 #[.pointer (some ⟨P, 0, .none⟩), .pointer (some ⟨K, 0, .none⟩)] w fun e w' => e = .returned (.pointer (some ⟨P, k + 1, .none⟩)) ∧ w' = w := by
  go_enter Ybaf.func15, Ybaf.ntmps15
  go_wp2_with fail
  refine (pick_any P k hk w hP).mono ?_
  rintro e w' ⟨rfl, rfl⟩
  go_wp2
  go_ret
  exact ⟨rfl, rfl⟩

def pF (v0 v1 v2 v3 v4 : Value) : Nat → Value
  | 0 => .string ⟨#[98]⟩
  | 1 => v0
  | 2 => v1
  | 3 => v2
  | 4 => v3
  | 5 => v4
  | _ => .int .u8 0

abbrev pC (v0 v1 v2 v3 v4 : Value) : Array Value := #[.string ⟨#[98]⟩, v0, v1, v2, v3, v4, .int .u8 0, .int .u8 0, .int .u8 0, .int .u8 0, .int .u8 0, .int .u8 0, .int .u8 0, .int .u8 0, .int .u8 0, .int .u8 0, .int .u8 0, .int .u8 0, .int .u8 0, .int .u8 0, .int .u8 0, .int .u8 0]

theorem pC_at (v0 v1 v2 v3 v4 : Value) (i : Nat) (hi : i < 22) : (pC v0 v1 v2 v3 v4)[i]? = some (pF v0 v1 v2 v3 v4 i) := by
  match i, hi with
  | 0, _ => rfl
  | 1, _ => rfl
  | 2, _ => rfl
  | 3, _ => rfl
  | 4, _ => rfl
  | 5, _ => rfl
  | i + 6, hi =>
    have h : ∀ q, q < 16 → ([.int .u8 0, .int .u8 0, .int .u8 0, .int .u8 0, .int .u8 0, .int .u8 0, .int .u8 0, .int .u8 0, .int .u8 0, .int .u8 0, .int .u8 0, .int .u8 0, .int .u8 0, .int .u8 0, .int .u8 0, .int .u8 0] : List Value)[q]? = some (.int .u8 0) := by
      intro q hq
      have : ([.int .u8 0, .int .u8 0, .int .u8 0, .int .u8 0, .int .u8 0, .int .u8 0, .int .u8 0, .int .u8 0, .int .u8 0, .int .u8 0, .int .u8 0, .int .u8 0, .int .u8 0, .int .u8 0, .int .u8 0, .int .u8 0] : List Value) = List.replicate 16 (.int .u8 0) := rfl
      rw [this, List.getElem?_replicate, if_pos hq]
    rw [← Array.getElem?_toList]
    simp only [List.getElem?_cons_succ, pF]
    exact h i (by omega)

theorem laid26 {B : Nat} {g : Nat → Value} {w : World} (hrow : w.rowIs B 26 22 g) (v0 v1 v2 v3 v4 : Value) : (w.setRow B (pC v0 v1 v2 v3 v4)).rowIs B 26 22 (pF v0 v1 v2 v3 v4) := by
  obtain ⟨c, hb, hn, _⟩ := hrow
  exact ⟨_, setRow_heap w B c _ 26 (0, 0) hb, rfl, fun i hi => pC_at _ _ _ _ _ i hi⟩

theorem row_heap {b t n : Nat} {g : Nat → Value} {w : World} (hrow : w.rowIs b t n g) : ∃ c, w.heap[b]? = some (.cells c t (0, 0)) ∧ c.size = n := by
  obtain ⟨c, hb, hn, _⟩ := hrow
  exact ⟨c, hb, hn⟩

theorem pC_one (p0 p1 p2 p3 p4 : Option Addr) (n0 n1 n2 n3 n4 c0 c1 c2 c3 c4 : Nat) : (pC (.slice p0 n0 c0) (.slice p1 n1 c1) (.slice p2 n2 c2) (.slice p3 n3 c3) (.slice p4 n4 c4)).all (·.oneCell') = true := by
  simp [pC, Value.oneCell']

def pC_all (p0 p1 p2 p3 p4 : Option Addr) (n0 n1 n2 n3 n4 c0 c1 c2 c3 c4 : Nat) : Prop := (pC (.slice p0 n0 c0) (.slice p1 n1 c1) (.slice p2 n2 c2) (.slice p3 n3 c3) (.slice p4 n4 c4)).all (·.oneCell') = true

theorem FV.setRow {w : World} {B P : Nat} {v : Value} {l : List UInt8} (h0 : FV w B v l) (h : FV w P v l) (cs : Array Value) : FV (w.setRow B cs) P v l := by
  rcases h with h | ⟨b, c, q1, q2, q3, q4⟩
  · exact .inl h
  · rcases h0 with ⟨q, _⟩ | ⟨b', c', r1, r2, _, _⟩
    · rw [q] at q1; cases q1
    · rw [q1] at r1; cases r1
      refine .inr ⟨b, c, q1, q2, by simpa using q3, fun i hi => ?_⟩
      rw [cell_setRow_other _ _ _ _ r2]
      exact q4 i hi

theorem below_setRow {B g : Nat} {w0 w : World} (hb : Below B w0 w) (hBg : B ≤ g) (cs : Array Value) : Below B w0 (w.setRow g cs) :=
  ⟨hb.os, hb.tape, hb.output, by rw [setRow_size]; exact hb.size, fun k hk => (setRow_other w g k cs (by omega)).trans (hb.block k hk)⟩

theorem results_cell1 {fn : Func} {p : Tmp} {ty : TypeId} (h : fn.results = #[.cell p ty]) (tmps : Array Value) (P : Program) (w : World) :
    (results fn tmps).run P w = ((asAddr (tmps.getD p undef)).run P w).andThen fun a w₁ => (loadVar ty a).run P w₁ := by
  simp only [results, h]
  simp [Sem.run_bind, Result.andThen]

theorem info26 : (Ybaf.prog.info? 26).map (·.size) = some 22 := by kernel_rfl

end Go.Proofs.YbulkbdgoFmt
