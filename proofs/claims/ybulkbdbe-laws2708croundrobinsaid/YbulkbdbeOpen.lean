import Derived.Test.YbulkbdbeClose
namespace Go.Proofs.Ybulkbdbe
open Go.RowKit Go.Deep
set_option linter.unusedVariables false

theorem row_one (w : World) (v : Value) (t : TypeId) : (w.alloc (.cells #[v] t)).rowIs w.heap.size t 1 (fun _ => v) :=
  World.rowIs_alloc w #[v] t (fun _ => v) (fun o ho => by
    have : o = 0 := by simp at ho; omega
    subst this; rfl)

theorem made_at (z : Array Value) (n q : Nat) (hq : q < n) : (madeCells z n)[q]? = some (z[q % z.size]!) := by
  simp [madeCells, hq]

theorem made3 (n q : Nat) (hq : q < n * 3) : (madeCells #[Value.bool false, .slice none 0 0, .slice none 0 0] (n * 3))[q]? = some (if q % 3 = 0 then .bool false else .slice none 0 0) := by
  rw [made_at _ _ _ hq]
  have h3 : q % 3 = 0 ∨ q % 3 = 1 ∨ q % 3 = 2 := by omega
  rcases h3 with h | h | h
  · simp [h]
  · simp [h]
  · simp [h]

theorem made2 (n q : Nat) (hq : q < n * 2) : (madeCells #[Value.slice none 0 0, .int .u64 0] (n * 2))[q]? = some (if q % 2 = 0 then .slice none 0 0 else .int .u64 (0 : Nat)) := by
  rw [made_at _ _ _ hq]
  have h3 : q % 2 = 0 ∨ q % 2 = 1 := by omega
  rcases h3 with h | h
  · simp [h]
  · simp [h]

theorem row_wide (w : World) (c : Array Value) (t : TypeId) (n : Nat) (f : Nat → Value) (hs : c.size = n) (hc : ∀ q, q < n → c[q]? = some (f q)) : (w.alloc (.cells c t)).rowIs w.heap.size t n f := by
  have := World.rowIs_alloc w c t f (fun q hq => hc q (by omega))
  rw [hs] at this
  exact this

theorem owns_nil (w : World) (base : Nat) (U : Nat → Nat) : w.ownsRow base 33 1 (.slice none 0 0) 0 (cells U 0) := World.ownsRow_nil w base 33 1

theorem P1.start (w5 : World) (np : Nat) (es : Nat → En) (U : Nat → Nat) :
    P1 w5 (((((w5.alloc (.cells #[.slice (some ⟨w5.heap.size + 1, 0, none⟩) np np, .slice none 0 0] 91)).alloc (.cells (madeCells #[.bool false, .slice none 0 0, .slice none 0 0] (np * 3)) 97)).alloc (.cells (madeCells #[.slice none 0 0] np) 98)).alloc (.cells (madeCells #[.slice none 0 0] np) 54)).alloc (.cells (madeCells #[.slice none 0 0] np) 54))
      w5.heap.size (w5.heap.size + 1) (w5.heap.size + 1 + 1) (w5.heap.size + 1 + 1 + 1) (w5.heap.size + 1 + 1 + 1 + 1) (w5.heap.size + 5) np 0 0 0 es U (.slice none 0 0) (.slice none 0 0) := by
  refine ⟨((((((Fr.refl _ _).alloc _).alloc _).alloc _).alloc _).alloc _), by simp, by omega, ⟨?_, ?_, ?_, ?_, ?_, by omega⟩, owns_nil _ _ _, owns_nil _ _ _, fun b hb => (by cases hb), fun q hq => by omega, fun q hq => by omega, fun p q h1 h2 => by omega, fun q hq => by omega, fun q hq => by omega⟩
  · exact (((((row_wide w5 _ 91 2 (ftF (w5.heap.size + 1) np (.slice none 0 0)) rfl (fun q hq => by
      have h2 : q = 0 ∨ q = 1 := by omega
      rcases h2 with rfl | rfl
      · rfl
      · rfl)).alloc _).alloc _).alloc _).alloc _)
  · have := row_wide (w5.alloc (.cells #[.slice (some ⟨w5.heap.size + 1, 0, none⟩) np np, .slice none 0 0] 91)) (madeCells #[.bool false, .slice none 0 0, .slice none 0 0] (np * 3)) 97 (np * 3) (fpF es 0) (by simp [madeCells]) (fun q hq => by
      rw [made3 np q hq]
      unfold fpF
      by_cases h : q % 3 = 0
      · rw [if_pos h, if_pos h]
      · rw [if_neg h, if_neg h, if_neg (by omega)])
    have h2 := ((this.alloc (.cells (madeCells #[.slice none 0 0] np) 98)).alloc (.cells (madeCells #[.slice none 0 0] np) 54)).alloc (.cells (madeCells #[.slice none 0 0] np) 54)
    simpa using h2
  · have := (World.rowIs_made ((w5.alloc (.cells #[.slice (some ⟨w5.heap.size + 1, 0, none⟩) np np, .slice none 0 0] 91)).alloc (.cells (madeCells #[.bool false, .slice none 0 0, .slice none 0 0] (np * 3)) 97)) (.slice none 0 0) np 98).congr (g := frF es 0) (fun q hq => by unfold frF; rw [if_neg (by omega)])
    have h2 := (this.alloc (.cells (madeCells #[.slice none 0 0] np) 54)).alloc (.cells (madeCells #[.slice none 0 0] np) 54)
    simpa using h2
  · have := (World.rowIs_made (((w5.alloc (.cells #[.slice (some ⟨w5.heap.size + 1, 0, none⟩) np np, .slice none 0 0] 91)).alloc (.cells (madeCells #[.bool false, .slice none 0 0, .slice none 0 0] (np * 3)) 97)).alloc (.cells (madeCells #[.slice none 0 0] np) 98)) (.slice none 0 0) np 54).congr (g := fuF es 0) (fun q hq => by unfold fuF; rw [if_neg (by omega)])
    have h2 := this.alloc (.cells (madeCells #[.slice none 0 0] np) 54)
    simpa using h2
  · have := (World.rowIs_made ((((w5.alloc (.cells #[.slice (some ⟨w5.heap.size + 1, 0, none⟩) np np, .slice none 0 0] 91)).alloc (.cells (madeCells #[.bool false, .slice none 0 0, .slice none 0 0] (np * 3)) 97)).alloc (.cells (madeCells #[.slice none 0 0] np) 98)).alloc (.cells (madeCells #[.slice none 0 0] np) 54)) (.slice none 0 0) np 54).congr (g := flF es 0) (fun q hq => by unfold flF; rw [if_neg (by omega)])
    simpa using this

section
variable {w5 w : World} {T PR RF TU LU HB np i : Nat} {es : Nat → En} {U : Nat → Nat} {tv pv : Value}

/-- a priority is begun: its three rows made, and laid into the tables -/
theorem P1.opened (h : P1 w5 w T PR RF TU LU HB np i (i + 1) (i + 1) es U tv pv) (hi : i < np) (nl : Nat) (lU k C RC : Nat → Nat) (E : Nat → Nat → Nat) :
    P2 w5 ((((((w.alloc (.cells (madeCells #[.slice none 0 0, .int .u64 0] (nl * 2)) 106)).setCell ⟨PR, i * 3 + 1, none⟩ (.slice (some ⟨w.heap.size, 0, none⟩) nl nl)).alloc (.cells (madeCells #[.slice none 0 0] nl) 99)).setCell ⟨RF, i, none⟩ (.slice (some ⟨w.heap.size + 1, 0, none⟩) nl nl)).alloc (.cells (madeCells #[.int .u64 0] nl) 33)).setCell ⟨TU, i, none⟩ (.slice (some ⟨w.heap.size + 2, 0, none⟩) nl nl))
      T PR RF TU LU HB w.heap.size np i 0 0 0 nl es U tv pv lU k C RC E (.slice none 0 0) (.slice none 0 0) := by
  have o1 := h.rw.o
  have b1 := h.hb
  have b2 := h.hb2
  obtain ⟨wa, hwa⟩ : ∃ wa, wa = w.alloc (.cells (madeCells #[.slice none 0 0, .int .u64 0] (nl * 2)) 106) := ⟨_, rfl⟩
  have la : wa.rowIs w.heap.size 106 (nl * 2) (rowL C k 0) := by
    rw [hwa]
    exact row_wide w _ 106 (nl * 2) _ (by simp [madeCells]) (fun q hq => by
      rw [made2 nl q hq]
      unfold rowL
      by_cases e : q % 2 = 0
      · rw [if_pos e, if_pos e, if_neg (by omega)]
      · rw [if_neg e, if_neg e])
  have fa : Fr (fun _ => False) w wa := by rw [hwa]; exact (Fr.refl _ _).alloc _
  have sa : wa.heap.size = w.heap.size + 1 := by rw [hwa]; simp
  rw [← hwa]
  obtain ⟨wb, hwb⟩ : ∃ wb, wb = wa.setCell ⟨PR, i * 3 + 1, none⟩ (.slice (some ⟨w.heap.size, 0, none⟩) nl nl) := ⟨_, rfl⟩
  have sb : wb.heap.size = w.heap.size + 1 := by rw [hwb]; simp [World.setCell]; exact sa
  have rb : Rw wb T PR RF TU LU np (ftF PR np tv) (fun q => if q = i * 3 + 1 then .slice (some ⟨w.heap.size, 0, none⟩) nl nl else fpF es i q) (frF es i) (fuF es i) (flF es i) := by
    rw [hwb]; exact (h.rw.next fa (fun _ _ _ => id)).setP _ _
  have fb : Fr (fun b => b = PR) wa wb := by rw [hwb]; exact Fr.setCell (M := fun b => b = PR) (Fr.refl _ wa) (p := ⟨PR, i * 3 + 1, none⟩) rfl _
  rw [← hwb]
  obtain ⟨wc, hwc⟩ : ∃ wc, wc = wb.alloc (.cells (madeCells #[.slice none 0 0] nl) 99) := ⟨_, rfl⟩
  have fc : Fr (fun _ => False) wb wc := by rw [hwc]; exact (Fr.refl _ _).alloc _
  have rc : wc.rowIs (w.heap.size + 1) 99 nl (rowR RC k 0) := by
    rw [hwc, ← sb]
    exact (World.rowIs_made wb (.slice none 0 0) nl 99).congr fun q hq => by unfold rowR; rw [if_neg (by omega)]
  have sc : wc.heap.size = w.heap.size + 2 := by rw [hwc]; simp; omega
  rw [← hwc]
  obtain ⟨wd, hwd⟩ : ∃ wd, wd = wc.setCell ⟨RF, i, none⟩ (.slice (some ⟨w.heap.size + 1, 0, none⟩) nl nl) := ⟨_, rfl⟩
  have sd : wd.heap.size = w.heap.size + 2 := by rw [hwd]; simp [World.setCell]; exact sc
  have rd := (rb.next fc (fun _ _ _ => id)).setR i (.slice (some ⟨w.heap.size + 1, 0, none⟩) nl nl)
  rw [← hwd] at rd
  have fd : Fr (fun b => b = RF) wc wd := by rw [hwd]; exact Fr.setCell (M := fun b => b = RF) (Fr.refl _ wc) (p := ⟨RF, i, none⟩) rfl _
  rw [← hwd]
  obtain ⟨we, hwe⟩ : ∃ we, we = wd.alloc (.cells (madeCells #[.int .u64 0] nl) 33) := ⟨_, rfl⟩
  have fe : Fr (fun _ => False) wd we := by rw [hwe]; exact (Fr.refl _ _).alloc _
  have te : we.rowIs (w.heap.size + 2) 33 nl (fun _ => .int .u64 (0 : Nat)) := by
    rw [hwe, ← sd]
    exact World.rowIs_made wd (.int .u64 0) nl 33
  have se : we.heap.size = w.heap.size + 3 := by rw [hwe]; simp; omega
  rw [← hwe]
  have ff : Fr (fun b => b = TU) we (we.setCell ⟨TU, i, none⟩ (.slice (some ⟨w.heap.size + 2, 0, none⟩) nl nl)) := Fr.setCell (M := fun b => b = TU) (Fr.refl _ we) (p := ⟨TU, i, none⟩) rfl _
  have rf := (rd.next fe (fun _ _ _ => id)).setU i (.slice (some ⟨w.heap.size + 2, 0, none⟩) nl nl)
  have pcf := (((((h.pc.next fa (fun _ e => e.elim)).next fb (fun b e => by omega)).next fc (fun _ e => e.elim)).next fd (fun b e => by omega)).next fe (fun _ e => e.elim)).next ff (fun b e => by omega)
  refine ⟨pcf, rf.congr (fun _ _ => rfl) (fun q hq => ?_) (fun _ _ => rfl) (fun _ _ => rfl) (fun q hq => ?_), by have := ff.size; omega, ?_, ?_, ?_, owns_nil _ _ _, owns_nil _ _ _, fun b hb => (by cases hb), fun a ha => by omega, fun a q ha => by omega, fun a q ha => by omega, fun a ha => by omega⟩
  · unfold fp2 fpF
    by_cases a1 : q = i * 3 + 2
    · subst a1
      rw [if_neg (by omega), if_neg (by omega), if_neg (by omega), if_pos rfl]
    · rw [if_neg a1]
  · unfold fl2 flF
    by_cases a1 : q = i
    · subst a1; rw [if_neg (by omega), if_pos rfl]
    · rw [if_neg a1]
  · exact ff.row (fe.row (fd.row (fc.row (fb.row la (by omega)) id) (by omega)) id) (by omega)
  · exact ff.row (fe.row (fd.row rc (by omega)) id) (by omega)
  · exact ff.row te (by omega)
end

end Go.Proofs.Ybulkbdbe
