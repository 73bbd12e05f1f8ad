import Derived.Test.YbulkbdgoFmtClos
import Derived.Deep.RegionLaw
import Derived.Deep.LoopGhost
import Derived.BigRegion
import Derived.Lib.JoinLaws
import Derived.Lib.LazyBuf
import Derived.Lib.IndexBytes
namespace Go.Proofs.YbulkbdgoFmt
open Go.RowKit Go.Deep
set_option linter.unusedVariables false

def upTab : ByteArray := ⟨#[48, 49, 50, 51, 52, 53, 54, 55, 56, 57, 65, 66, 67, 68, 69, 70]⟩
def tabOf (up : Bool) : ByteArray := if up then upTab else Lib.Hx.tab
def dg (up : Bool) (d : Nat) : UInt8 := (tabOf up).data.toList[d]?.getD 0
def hexOf (up : Bool) (l : List UInt8) : List UInt8 := l.flatMap fun b => [dg up (b.toNat / 16), dg up (b.toNat % 16)]

theorem hexOf_false (l : List UInt8) : hexOf false l = Lib.Hx.encode l := rfl

theorem hexOf_length (up : Bool) (l : List UInt8) : (hexOf up l).length = 2 * l.length := by
  induction l with
  | nil => rfl
  | cons a t ih => simp [hexOf] at *; omega

theorem Ybaf.info5 : (Ybaf.prog.info? 5).map (fun i => (i.zero, i.size, i.bytes)) = some (some (.int .u8 0), 1, 1) := by kernel_rfl

theorem mkbytes (n : Nat) (hn : n ≤ 1024) (w : World) : (Instr.makeSlice 22 (.int .i64 0) (.int .i64 (2 * (n : Int)))).run Ybaf.prog w = .ok (.slice (some ⟨w.heap.size, 0, .none⟩) 0 (2 * n)) (w.alloc (.cells (madeCells #[.int .u8 0] (2 * n)) 5)) := by
  obtain ⟨i, hi, hz, hs, hb⟩ := info_parts Ybaf.info5
  have hr := run_make (P := Ybaf.prog) w 22 5 i _ Ybaf.underlying22 hi hz .i64 .i64 0 (2 * (n : Int)) (by omega) (by omega) (by rw [hb]; omega) (by omega)
  rw [hs, show (2 * (n : Int)).toNat = 2 * n by omega, Nat.mul_one] at hr
  exact hr

/-- k bytes written -/
structure Hs (w0 : World) (B n k : Nat) (h : List UInt8) (w : World) : Prop where
  row : w.rowIs B 5 (2 * n) (fun i => if i < 2 * k then .int .u8 ((zs h).getD i 0) else .int .u8 0)
  base : w0.heap.size ≤ B
  below : Below w0.heap.size w0 w

theorem Hs.start (w : World) (n : Nat) (h : List UInt8) : Hs w w.heap.size n 0 h (w.alloc (.cells (madeCells #[.int .u8 0] (2 * n)) 5)) :=
  ⟨(World.rowIs_made w (.int .u8 0) (2 * n) 5).congr fun i hi => by simp, Nat.le_refl _, (Below.refl _ _).alloc (Nat.le_refl _) _⟩

theorem Hs.alloc {w0 w : World} {B n k : Nat} {h : List UInt8} (hh : Hs w0 B n k h w) (o : Obj) : Hs w0 B n k h (w.alloc o) :=
  ⟨hh.row.alloc o, hh.base, hh.below.alloc hh.below.size o⟩

theorem Hs.drew {w0 w : World} {B n k : Nat} {h : List UInt8} (hh : Hs w0 B n k h w) : Hs w0 B n k h w.drew :=
  ⟨hh.row, hh.base, hh.below.drew⟩

theorem zs_at (l : List UInt8) (k : Nat) (h : k < l.length) : (zs l).getD k 0 = (l[k].toNat : Int) := by
  simp [zs, List.getD, h]

theorem hexOf_at (up : Bool) : ∀ (l : List UInt8) (k : Nat) (h : k < l.length), (hexOf up l)[2 * k]? = some (dg up (l[k].toNat / 16)) ∧ (hexOf up l)[2 * k + 1]? = some (dg up (l[k].toNat % 16))
  | a :: t, 0, h => ⟨rfl, rfl⟩
  | a :: t, k + 1, h => by
    have := hexOf_at up t k (by simpa using h)
    have e : hexOf up (a :: t) = dg up (a.toNat / 16) :: dg up (a.toNat % 16) :: hexOf up t := rfl
    rw [e, show 2 * (k + 1) = 2 * k + 1 + 1 by omega, List.getElem?_cons_succ, List.getElem?_cons_succ, List.getElem?_cons_succ, List.getElem?_cons_succ]
    simpa using this

theorem tab_at (t : ByteArray) (i : Nat) (h : i < t.size) : ((t[i]'h).toNat : Int) = ((t.data.toList[i]?.getD 0).toNat : Int) := by
  rw [Lib.data_getElem? t i h]
  rfl

theorem Hs.step {w0 w : World} {B n k : Nat} {up : Bool} {l : List UInt8} (h : Hs w0 B n k (hexOf up l) w) (hk : k < n) (hn : l.length = n) (x : Int) (hx : x = ((l[k]'(by omega)).toNat : Int)) {h1 : (x / 16).toNat < (tabOf up).size} {h2 : (x % 16).toNat < (tabOf up).size} :
    Hs w0 B n (k + 1) (hexOf up l) ((w.setCell ⟨B, 2 * k, .none⟩ (.int .u8 (((tabOf up)[(x / 16).toNat]'h1).toNat : Int))).setCell ⟨B, 2 * k + 1, .none⟩ (.int .u8 (((tabOf up)[(x % 16).toNat]'h2).toNat : Int))) := by
  obtain ⟨e1, e2⟩ := hexOf_at up l k (by omega)
  have hl := hexOf_length up l
  refine ⟨((h.row.set (2 * k) _).set (2 * k + 1) _).congr fun i hi => ?_, h.base, (h.below.setCell h.base _).setCell h.base _⟩
  have z : ∀ j b, (hexOf up l)[j]? = some b → (zs (hexOf up l)).getD j 0 = (b.toNat : Int) := fun j b hb => by
    simp [zs, List.getD, hb]
  by_cases c1 : i = 2 * k + 1
  · subst c1
    rw [if_pos rfl, if_pos (by omega), tab_at, z _ _ e2, hx]
    rfl
  · rw [if_neg c1]
    by_cases c2 : i = 2 * k
    · subst c2
      rw [if_pos rfl, if_pos (by omega), tab_at, z _ _ e1, hx]
      rfl
    · rw [if_neg c2]
      by_cases c3 : i < 2 * k
      · rw [if_pos c3, if_pos (by omega)]
      · rw [if_neg c3, if_neg (by omega)]

theorem Hs.bytes {w0 w : World} {B n : Nat} {up : Bool} {l : List UInt8} (h : Hs w0 B n n (hexOf up l) w) (hn : l.length = n) : Lib.BytesIn w (some ⟨B, 0, .none⟩) (2 * n) (zs (hexOf up l)) := by
  intro _
  refine ⟨B, 0, rfl, fun i hi => ?_⟩
  rw [Nat.zero_add, h.row.cell hi, if_pos hi]

theorem strOf_zs (l : List UInt8) : strOfNums (zs l) = ⟨l.toArray⟩ := Lib.Lz.strOfNums_map l

set_option maxHeartbeats 4000000 in
theorem hex_any (v : Value) (l : List UInt8) (up : Bool) (w : World) (h : Bs w v l) (hl : l.length ≤ 512) :
    Calls Ybaf.prog 14 #[v, .bool up] w fun e w' => e = .returned (.string ⟨(hexOf up l).toArray⟩) ∧ Below w.heap.size w w' := by
  obtain ⟨p, c, rfl, hb⟩ := h
  have mk := mkbytes l.length (by omega)
  generalize hn : l.length = n at *
  cases up with
  | true =>
    go_enter Ybaf.func14, Ybaf.ntmps14
    go_wp2
    clear mk
    go_loopw [6, 16] (fun ov iv wr => ∃ k : Nat, k ≤ n ∧ ov = .slice (some ⟨w.heap.size, 0, .none⟩) (2 * k) (2 * n) ∧ iv = .int .i64 k ∧ Hs w w.heap.size n k (hexOf true l) wr) (fun _ iv _ => n - (intOf iv).toNat)
    case atStart => exact ⟨0, by omega, rfl, rfl, Hs.start _ _ _⟩
    case round =>
      obtain ⟨k, hk, rfl, rfl, hS⟩ := hrel
      by_cases hlt : k < n
      · obtain ⟨b, o, rfl, hcell⟩ := hb (by omega)
        have hck := hcell k hlt
        have hrk := zs_range l k (by omega)
        have hxx := zs_at l k (by omega)
        have HX : Hid ((zs l).getD k 0 = ((l[k]'(by omega)).toNat : Int)) := hxx
        clear hxx
        generalize (zs l).getD k 0 = x at *
        have hbw : b < w.heap.size := block_lt_of_cell hck
        have hck' : wr.cell? ⟨b, o + k, .none⟩ = some (.int .u8 x) := by rw [hS.below.cell hbw]; exact hck
        obtain ⟨hx0, hx1⟩ := hrk
        clear hck hcell
        have hlt' : (k : Int) < n := by omega
        have hc0 : wr.cell? ⟨w.heap.size, 2 * k, .none⟩ = some (.int .u8 0) := by rw [hS.row.cell (by omega), if_neg (by omega)]
        have hc1 : wr.cell? ⟨w.heap.size, 2 * k + 1, .none⟩ = some (.int .u8 0) := by rw [hS.row.cell (by omega), if_neg (by omega)]
        have hf0 := hS.row.frozen (2 * k)
        have hf1 := hS.row.frozen (2 * k + 1)
        have hBl := hS.row.lt
        generalize hB : w.heap.size = B at *
        have hroom : 2 * k + 2 ≤ 2 * n := by omega
        have i0 : 0 ≤ x / 16 := by omega
        have i1 : x / 16 < 16 := by omega
        have i2 : 0 ≤ x % 16 := by omega
        have i3 : x % 16 < 16 := by omega
        go_wp2_with fail
        go_region
        have hlast := hS.step (up := true) (l := l) hlt hn x HX.out (h1 := by show _ < 16; omega) (h2 := by show _ < 16; omega)
        clear hc0 hc1 hf0 hf1 hck'
        go_wp2
        go_roundw
        case rel =>
          exact ⟨k + 1, by omega, by go_num, by go_num, (hlast.alloc _).drew⟩
        case measure => simp [intOf]; omega
      · have hkn : k = n := by omega
        subst hkn
        have hcv := fun q => (hS.bytes hn).convert (P := Ybaf.prog) (by rw [zs_length, hexOf_length, hn]) q 22 5 9 Ybaf.underlying22 Ybaf.underlying5 Ybaf.underlying9
        rw [strOf_zs] at hcv
        have HB : Hid (Below w.heap.size w wr) := hS.below
        clear hS
        go_wp2
        go_ret
        exact ⟨rfl, HB.out⟩
  | false =>
    go_enter Ybaf.func14, Ybaf.ntmps14
    go_wp2
    clear mk
    go_loopw [6, 16] (fun ov iv wr => ∃ k : Nat, k ≤ n ∧ ov = .slice (some ⟨w.heap.size, 0, .none⟩) (2 * k) (2 * n) ∧ iv = .int .i64 k ∧ Hs w w.heap.size n k (hexOf false l) wr) (fun _ iv _ => n - (intOf iv).toNat)
    case atStart => exact ⟨0, by omega, rfl, rfl, Hs.start _ _ _⟩
    case round =>
      obtain ⟨k, hk, rfl, rfl, hS⟩ := hrel
      by_cases hlt : k < n
      · obtain ⟨b, o, rfl, hcell⟩ := hb (by omega)
        have hck := hcell k hlt
        have hrk := zs_range l k (by omega)
        have hxx := zs_at l k (by omega)
        have HX : Hid ((zs l).getD k 0 = ((l[k]'(by omega)).toNat : Int)) := hxx
        clear hxx
        generalize (zs l).getD k 0 = x at *
        have hbw : b < w.heap.size := block_lt_of_cell hck
        have hck' : wr.cell? ⟨b, o + k, .none⟩ = some (.int .u8 x) := by rw [hS.below.cell hbw]; exact hck
        obtain ⟨hx0, hx1⟩ := hrk
        clear hck hcell
        have hlt' : (k : Int) < n := by omega
        have hc0 : wr.cell? ⟨w.heap.size, 2 * k, .none⟩ = some (.int .u8 0) := by rw [hS.row.cell (by omega), if_neg (by omega)]
        have hc1 : wr.cell? ⟨w.heap.size, 2 * k + 1, .none⟩ = some (.int .u8 0) := by rw [hS.row.cell (by omega), if_neg (by omega)]
        have hf0 := hS.row.frozen (2 * k)
        have hf1 := hS.row.frozen (2 * k + 1)
        have hBl := hS.row.lt
        generalize hB : w.heap.size = B at *
        have hroom : 2 * k + 2 ≤ 2 * n := by omega
        have i0 : 0 ≤ x / 16 := by omega
        have i1 : x / 16 < 16 := by omega
        have i2 : 0 ≤ x % 16 := by omega
        have i3 : x % 16 < 16 := by omega
        go_wp2_with fail
        go_region
        have hlast := hS.step (up := false) (l := l) hlt hn x HX.out (h1 := by show _ < 16; omega) (h2 := by show _ < 16; omega)
        clear hc0 hc1 hf0 hf1 hck'
        go_wp2
        go_roundw
        case rel =>
          exact ⟨k + 1, by omega, by go_num, by go_num, (hlast.alloc _).drew⟩
        case measure => simp [intOf]; omega
      · have hkn : k = n := by omega
        subst hkn
        have hcv := fun q => (hS.bytes hn).convert (P := Ybaf.prog) (by rw [zs_length, hexOf_length, hn]) q 22 5 9 Ybaf.underlying22 Ybaf.underlying5 Ybaf.underlying9
        rw [strOf_zs] at hcv
        have HB : Hid (Below w.heap.size w wr) := hS.below
        clear hS
        go_wp2
        go_ret
        exact ⟨rfl, HB.out⟩

end Go.Proofs.YbulkbdgoFmt
