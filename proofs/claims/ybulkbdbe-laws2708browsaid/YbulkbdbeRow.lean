import Derived.Test.YbulkbdbeAt
import Derived.Deep.WholeRow
namespace Go.Proofs.Ybulkbdbe
open Go.RowKit Flt Ieee
set_option linter.unusedVariables false

/-- the count's cell holds r; of what was there in w0 nothing has turned -/
structure Sr (w0 : World) (b r : Nat) (w : World) : Prop where
  cell : w.cell? ⟨b, 0, none⟩ = some (.int .u64 r)
  froz : w.frozen? ⟨b, 0, none⟩ = false
  below : Below w0.heap.size w0 w
  base : w0.heap.size ≤ b

theorem Sr.lt {w0 w : World} {b r : Nat} (h : Sr w0 b r w) : b < w.heap.size := block_lt_of_cell h.cell

theorem Sr.next {w0 w w' : World} {b r : Nat} (h : Sr w0 b r w) (hb : Below w.heap.size w w') : Sr w0 b r w' :=
  ⟨by rw [hb.cell h.lt]; exact h.cell, by rw [World.frozen?_of_block (w := w) (hb.block _ h.lt)]; exact h.froz, h.below.trans (hb.mono h.below.size), h.base⟩

theorem Sr.set {w0 w : World} {b r : Nat} (h : Sr w0 b r w) (y : Nat) : Sr w0 b y ((w.setCell ⟨b, 0, none⟩ (.int .u64 y)).drew) :=
  ⟨by rw [World.cell?_drew]; exact World.cell?_setCell_same' _ _ _ (by rw [h.cell]; rfl), by simp [h.froz], (h.below.setCell h.base _).drew, h.base⟩

/-- the elements of the argument -/
def Steps (w : World) (a : Addr) (n : Nat) : Prop := ∀ i, i < n → ∃ o z : Int, w.cell? (a.add (i * 2)) = some (.int .u8 o) ∧ 0 ≤ o ∧ o < 256 ∧ w.cell? (a.add (i * 2 + 1)) = some (.int .i64 z) ∧ -9223372036854775808 ≤ z ∧ z ≤ 9223372036854775807

theorem Steps.below {w w' : World} {a : Addr} {n : Nat} (h : Steps w a n) (hb : Below w.heap.size w w') : Steps w' a n := fun i hi => by
  obtain ⟨o, z, h1, h2, h3, h4, h5, h6⟩ := h i hi
  exact ⟨o, z, by rw [hb.cell (block_lt_of_cell h1)]; exact h1, h2, h3, by rw [hb.cell (block_lt_of_cell h4)]; exact h4, h5, h6⟩

/-- the row is open exactly where the rank is not -Inf -/
def Row (inRow : Bool) (r : Nat) : Prop := if inRow then Ok r else r = 18442240474082181120

theorem reset_any (b : Nat) (x : Int) (w : World) (hc : w.cell? ⟨b, 0, none⟩ = some (.int .u64 x)) (hz : w.frozen? ⟨b, 0, none⟩ = false) :
    Calls Yba.prog 10 #[.pointer (some ⟨b, 0, none⟩)] w fun e w' => e = .returned (.tuple #[]) ∧ w' = (w.setCell ⟨b, 0, none⟩ (.int .u64 18442240474082181120)).drew := by
  have HF : Hid (Calls Yba.prog 23 #[.pointer (some ⟨b, 0, none⟩)] w fun e w' => e = .returned (.tuple #[]) ∧ w' = (w.setCell ⟨b, 0, none⟩ (.int .u64 18442240474082181120)).drew) := freset_any b x w hc hz
  clear hc hz
  go_enter Yba.func10, Yba.ntmps10
  go_wp2_with (go_at_call 23; refine HF.out.mono ?_; rintro e w' ⟨rfl, hw⟩)
  go_end0
  exact ⟨rfl, rfl⟩

theorem cell_other {w : World} {b N y : Nat} {v : Value} (hne : N ≠ b) (h : w.cell? ⟨N, 0, none⟩ = some v) : ((w.setCell ⟨b, 0, none⟩ (.int .u64 y)).drew).cell? ⟨N, 0, none⟩ = some v := by
  rw [World.cell?_drew, World.cell?_of_block (w := w) (Below.heap_setCell w _ _ N hne)]; exact h

theorem row_or {i : Bool} {r : Nat} (h : Row i r) : Ok r ∨ r = 18442240474082181120 := by
  unfold Row at h
  cases i
  · exact .inr h
  · exact .inl h

def After (w0 : World) (b N : Nat) (z : Int) (i : Bool) (w' : World) : Prop := ∃ r, Row i r ∧ Sr w0 b r w' ∧ w'.cell? ⟨N, 0, none⟩ = some (.int .i64 z)

theorem fail_row (w0 : World) (b r N : Nat) (z : Int) (i : Bool) (w : World) (z1 : -9223372036854775808 ≤ z) (z2 : z ≤ 9223372036854775807) (hs : Sr w0 b r w) (hr : Row i r) (hN : w.cell? ⟨N, 0, none⟩ = some (.int .i64 z)) (hne : N ≠ b) :
    Calls Yba.prog 11 #[.pointer (some ⟨b, 0, none⟩), .int .i64 z, .string ⟨#[102, 97, 105, 108, 101, 100]⟩] w fun e w' => e = .returned (.tuple #[]) ∧ After w0 b N z true w' :=
  (failed_in b r z w z1 z2 (row_or hr) hs.cell hs.froz).mono fun e w' ⟨he, y, hy, hw⟩ => ⟨he, y, hy, by rw [hw]; exact hs.set y, by rw [hw]; exact cell_other hne hN⟩

theorem succ_row (w0 : World) (b r N : Nat) (z : Int) (i : Bool) (w : World) (hs : Sr w0 b r w) (hr : Row i r) (hN : w.cell? ⟨N, 0, none⟩ = some (.int .i64 z)) (hne : N ≠ b) :
    Calls Yba.prog 11 #[.pointer (some ⟨b, 0, none⟩), .int .i64 z, .string ⟨#[115, 117, 99, 99, 101, 101, 100, 101, 100]⟩] w fun e w' => e = .returned (.tuple #[]) ∧ After w0 b N z false w' := by
  cases i
  · have hr' : r = 18442240474082181120 := hr
    subst hr'
    exact (succeeded_shut b _ z w hs.cell shut_neg).mono fun e w' ⟨he, hw⟩ => ⟨he, _, rfl, by rw [hw]; exact hs, by rw [hw]; exact hN⟩
  · exact (succeeded_open b r z w hs.cell hs.froz (ok_open hr)).mono fun e w' ⟨he, hw⟩ => ⟨he, 18442240474082181120, rfl, by rw [hw]; exact hs.set 18442240474082181120, by rw [hw]; exact cell_other hne hN⟩

theorem aband_row (w0 : World) (b r N : Nat) (z : Int) (i : Bool) (w : World) (hs : Sr w0 b r w) (hr : Row i r) (hN : w.cell? ⟨N, 0, none⟩ = some (.int .i64 z)) :
    Calls Yba.prog 11 #[.pointer (some ⟨b, 0, none⟩), .int .i64 z, .string ⟨#[97, 98, 97, 110, 100, 111, 110, 101, 100]⟩] w fun e w' => e = .returned (.tuple #[]) ∧ After w0 b N z i w' :=
  (abandoned_any b z w).mono fun e w' ⟨he, hw⟩ => ⟨he, r, hr, by rw [hw]; exact hs, by rw [hw]; exact hN⟩

theorem at_row_open (w0 : World) (b r N : Nat) (z : Int) (w : World) (z1 : -9223372036854775808 ≤ z) (z2 : z ≤ 9223372036854775807) (hs : Sr w0 b r w) (hr : Ok r) (hN : w.cell? ⟨N, 0, none⟩ = some (.int .i64 z)) :
    Calls Yba.prog 14 #[.pointer (some ⟨b, 0, none⟩), .func (.func 15) #[] #[.pointer (some ⟨w.heap.size, 0, none⟩), .pointer (some ⟨N, 0, none⟩)]] (w.alloc (.cells #[.int .i64 0] 3)) fun e w' => (∃ n, e = .returned (.int .i64 n)) ∧ Sr w0 b r w' ∧ w'.cell? ⟨w.heap.size, 0, none⟩ = some (.int .i64 1) := by
  have hba : Below w.heap.size w (w.alloc (.cells #[.int .i64 0] 3)) := (Below.refl _ _).alloc (Nat.le_refl _) _
  have hNl : N < w.heap.size := block_lt_of_cell hN
  have ha := hs.next hba
  have hC : (w.alloc (.cells #[.int .i64 0] 3)).cell? ⟨w.heap.size, 0, none⟩ = some (.int .i64 0) := by go_simp
  have hz : (w.alloc (.cells #[.int .i64 0] 3)).frozen? ⟨w.heap.size, 0, none⟩ = false := by go_simp
  have hb1 : Below w.heap.size w ((w.alloc (.cells #[.int .i64 0] 3)).setCell ⟨w.heap.size, 0, none⟩ (.int .i64 1)) := hba.setCell (Nat.le_refl _) _
  have hc1 : ((w.alloc (.cells #[.int .i64 0] 3)).setCell ⟨w.heap.size, 0, none⟩ (.int .i64 1)).cell? ⟨w.heap.size, 0, none⟩ = some (.int .i64 1) := World.cell?_setCell_same' _ _ _ (by rw [hC]; rfl)
  refine (at_open b r w.heap.size N z _ hr z1 z2 ha.cell hC hz (by rw [hba.cell hNl]; exact hN) (by omega)).mono ?_
  rintro e w' ⟨he, rfl | rfl⟩
  · exact ⟨he, hs.next hb1, hc1⟩
  · exact ⟨he, hs.next hb1.drew, by rw [World.cell?_drew]; exact hc1⟩

theorem at_row_shut (w0 : World) (b r N : Nat) (w : World) (hs : Sr w0 b r w) (hr : r = 18442240474082181120) :
    Calls Yba.prog 14 #[.pointer (some ⟨b, 0, none⟩), .func (.func 15) #[] #[.pointer (some ⟨w.heap.size, 0, none⟩), .pointer (some ⟨N, 0, none⟩)]] (w.alloc (.cells #[.int .i64 0] 3)) fun e w' => e = .returned (.int .i64 0) ∧ Sr w0 b r w' ∧ w'.cell? ⟨w.heap.size, 0, none⟩ = some (.int .i64 0) := by
  subst hr
  have hba : Below w.heap.size w (w.alloc (.cells #[.int .i64 0] 3)) := (Below.refl _ _).alloc (Nat.le_refl _) _
  have ha := hs.next hba
  have hC : (w.alloc (.cells #[.int .i64 0] 3)).cell? ⟨w.heap.size, 0, none⟩ = some (.int .i64 0) := by go_simp
  exact (at_shut b w.heap.size N _ ha.cell).mono fun e w' ⟨he, hw⟩ => ⟨he, by rw [hw]; exact ha, by rw [hw]; exact hC⟩

theorem two_step {w0 wr : World} {b r : Nat} (o z : Int) (hs : Sr w0 b r wr) : Sr w0 b r ((wr.alloc (.cells #[.int .u8 o, .int .i64 z] 41)).alloc (.cells #[.int .i64 z] 42)) ∧ ((wr.alloc (.cells #[.int .u8 o, .int .i64 z] 41)).alloc (.cells #[.int .i64 z] 42)).cell? ⟨wr.heap.size + 1, 0, none⟩ = some (.int .i64 z) ∧ wr.heap.size + 1 ≠ b := by
  have h1 : Below wr.heap.size wr (wr.alloc (.cells #[.int .u8 o, .int .i64 z] 41)) := (Below.refl _ _).alloc (Nat.le_refl _) _
  have h2 := h1.alloc h1.size (.cells #[.int .i64 z] 42)
  have := hs.lt
  exact ⟨hs.next h2, by go_simp, by omega⟩

set_option maxHeartbeats 4000000 in
set_option maxRecDepth 100000 in
theorem row_any (a : Addr) (n c : Nat) (w : World) (hn : n ≤ 1024) (hS : Steps w a n) :
    Calls Yba.prog 5 #[.slice (some a) n c] w fun e w' => e = .returned (.bool true) ∧ Below w.heap.size w w' := by
  have hmf : ∀ (fn : Fn) (first cap : Array Value) (w : World), (Instr.makeFunc fn first cap).run Yba.prog w = .ok (.func fn first cap) w := fun _ _ _ _ => rfl
  have HS : Hid (Steps w a n) := hS
  clear hS
  go_enter Yba.func5, Yba.ntmps5
  go_wp2_with fail
  have h0 : Sr w w.heap.size 0 (w.alloc (.cells #[.int .u64 0] 39)) := ⟨by go_simp, by go_simp, (Below.refl _ _).alloc (Nat.le_refl _) _, Nat.le_refl _⟩
  have HR0 : Hid (Calls Yba.prog 10 #[.pointer (some ⟨w.heap.size, 0, none⟩)] (w.alloc (.cells #[.int .u64 0] 39)) fun e w' => e = .returned (.tuple #[]) ∧ Sr w w.heap.size 18442240474082181120 w') :=
    (reset_any w.heap.size 0 _ h0.cell h0.froz).mono fun e w' ⟨he, hw⟩ => ⟨he, by rw [hw]; exact h0.set _⟩
  clear h0
  refine HR0.out.mono ?_
  rintro e w1 ⟨rfl, h1⟩
  clear HR0
  generalize hb : w.heap.size = b at *
  have H1 : Hid (Sr w b 18442240474082181120 w1) := h1
  clear h1
  have hni : (n : Int) ≤ 1024 := by omega
  go_wp2_with fail
  go_loopw [4, 16] (fun rv iv wr => ∃ (inRow : Bool) (j r : Nat), rv = .bool inRow ∧ iv = .int .i64 j ∧ j ≤ n ∧ Sr w b r wr ∧ Row inRow r) (fun _ iv _ => n - (intOf iv).toNat)
  case atStart => exact ⟨false, 0, _, rfl, rfl, by omega, H1.out, rfl⟩
  case round =>
    obtain ⟨inRow, j, r, rfl, rfl, hj, hs, hrow⟩ := hrel
    by_cases hlt : j < n
    · obtain ⟨o, z, c1, o1, o2, c2, z1, z2⟩ := (HS.out.below hs.below) j hlt
      have hlt' : (j : Int) < (n : Int) := by omega
      have HSr : Hid (Sr w b r wr) := hs
      have HRw : Hid (Row inRow r) := hrow
      have c2' : wr.cell? ⟨(a.add (j * 2)).block, (a.add (j * 2)).off + 1, none⟩ = some (.int .i64 z) := by
        have e : (a.add (j * 2)).add 1 = ⟨(a.add (j * 2)).block, (a.add (j * 2)).off + 1, none⟩ := Addr.add_succ' (a.add (j * 2)) 0
        rw [← e, Addr.add_add]; exact c2
      clear hs hrow c2
      by_cases k0 : o % 3 = 0
      · have k0' : (o % 3 == 0) = true := by simp [k0]
        go_wp2_with fail
        obtain ⟨h2s, h2c, h2n⟩ := two_step o z HSr.out
        generalize hNe : wr.heap.size + 1 = N at *
        generalize (wr.alloc (.cells #[.int .u8 o, .int .i64 z] 41)).alloc (.cells #[.int .i64 z] 42) = w2 at *
        have HC : Hid (Calls Yba.prog 11 #[.pointer (some ⟨b, 0, none⟩), .int .i64 z, .string ⟨#[102, 97, 105, 108, 101, 100]⟩] w2 fun e w' => e = .returned (.tuple #[]) ∧ After w b N z true w') := fail_row w b r N z inRow _ z1 z2 h2s HRw.out h2c h2n
        clear h2s h2n HSr HRw c1 c2' hNe
        have cN : w2.cell? ⟨N, 0, none⟩ = some (.int .i64 z) := h2c
        clear h2c
        refine HC.out.mono ?_
        rintro e w3 ⟨rfl, r3, hr3, hs3, hN3⟩
        have hng : negInfB r3 = false := ok_open hr3
        have HRk : Hid (Calls Yba.prog 13 #[.pointer (some ⟨b, 0, none⟩)] w3 fun e w' => e = .returned (.float .f64 r3) ∧ w' = w3) := (rank_any b r3 w3 hs3.cell).mono fun e w' ⟨he, hw⟩ => ⟨by rw [he]; rfl, hw⟩
        have HAt : Hid (Calls Yba.prog 14 #[.pointer (some ⟨b, 0, none⟩), .func (.func 15) #[] #[.pointer (some ⟨w3.heap.size, 0, none⟩), .pointer (some ⟨N, 0, none⟩)]] (w3.alloc (.cells #[.int .i64 0] 3)) fun e w' => (∃ n, e = .returned (.int .i64 n)) ∧ Sr w b r3 w' ∧ w'.cell? ⟨w3.heap.size, 0, none⟩ = some (.int .i64 1)) := at_row_open w b r3 N z w3 z1 z2 hs3 hr3 hN3
        have HO : Hid (Row true r3) := hr3
        clear HC hr3 hs3 hN3
        go_wp2_with (first | (go_at_call 13; refine HRk.out.mono ?_; rintro e w' ⟨rfl, rfl⟩) | (go_at_call 12; refine (isinf_neg _ _).mono ?_; rintro e w' ⟨rfl, rfl⟩) | fail)
        refine HAt.out.mono ?_
        rintro e w5 ⟨⟨m, rfl⟩, hs5, hc5⟩
        have HS5 : Hid (Sr w b r3 w5) := hs5
        clear hs5 HAt HRk
        go_wp2
        go_roundw
        case rel => exact ⟨true, j + 1, r3, rfl, by go_num, by omega, HS5.out, HO.out⟩
        case measure => simp [RowKit.intOf]; omega
      by_cases k1 : o % 3 = 1
      · have k0' : (o % 3 == 0) = false := by simp [k0]
        have k1' : (o % 3 == 1) = true := by simp [k1]
        go_wp2_with fail
        obtain ⟨h2s, h2c, h2n⟩ := two_step o z HSr.out
        generalize hNe : wr.heap.size + 1 = N at *
        generalize (wr.alloc (.cells #[.int .u8 o, .int .i64 z] 41)).alloc (.cells #[.int .i64 z] 42) = w2 at *
        have HC : Hid (Calls Yba.prog 11 #[.pointer (some ⟨b, 0, none⟩), .int .i64 z, .string ⟨#[115, 117, 99, 99, 101, 101, 100, 101, 100]⟩] w2 fun e w' => e = .returned (.tuple #[]) ∧ After w b N z false w') := succ_row w b r N z inRow _ h2s HRw.out h2c h2n
        clear h2s h2n HSr HRw c1 c2' hNe
        have cN : w2.cell? ⟨N, 0, none⟩ = some (.int .i64 z) := h2c
        clear h2c
        refine HC.out.mono ?_
        rintro e w3 ⟨rfl, r3, hr3, hs3, hN3⟩
        have hr3' : r3 = 18442240474082181120 := hr3
        have hng : negInfB r3 = true := by rw [hr3']; exact shut_neg
        have HRk : Hid (Calls Yba.prog 13 #[.pointer (some ⟨b, 0, none⟩)] w3 fun e w' => e = .returned (.float .f64 r3) ∧ w' = w3) := (rank_any b r3 w3 hs3.cell).mono fun e w' ⟨he, hw⟩ => ⟨by rw [he]; rfl, hw⟩
        have HAt : Hid (Calls Yba.prog 14 #[.pointer (some ⟨b, 0, none⟩), .func (.func 15) #[] #[.pointer (some ⟨w3.heap.size, 0, none⟩), .pointer (some ⟨N, 0, none⟩)]] (w3.alloc (.cells #[.int .i64 0] 3)) fun e w' => e = .returned (.int .i64 0) ∧ Sr w b r3 w' ∧ w'.cell? ⟨w3.heap.size, 0, none⟩ = some (.int .i64 0)) := at_row_shut w b r3 N w3 hs3 hr3'
        have HO : Hid (Row false r3) := hr3
        clear HC hr3 hr3' hs3 hN3
        go_wp2_with (first | (go_at_call 13; refine HRk.out.mono ?_; rintro e w' ⟨rfl, rfl⟩) | (go_at_call 12; refine (isinf_neg _ _).mono ?_; rintro e w' ⟨rfl, rfl⟩) | fail)
        refine HAt.out.mono ?_
        rintro e w5 ⟨rfl, hs5, hc5⟩
        have HS5 : Hid (Sr w b r3 w5) := hs5
        clear hs5 HAt HRk
        go_wp2
        go_roundw
        case rel => exact ⟨false, j + 1, r3, rfl, by go_num, by omega, HS5.out, HO.out⟩
        case measure => simp [RowKit.intOf]; omega
      have k0' : (o % 3 == 0) = false := by simp [k0]
      have k1' : (o % 3 == 1) = false := by simp [k1]
      cases inRow with
      | true =>
        go_wp2_with fail
        obtain ⟨h2s, h2c, h2n⟩ := two_step o z HSr.out
        generalize hNe : wr.heap.size + 1 = N at *
        generalize (wr.alloc (.cells #[.int .u8 o, .int .i64 z] 41)).alloc (.cells #[.int .i64 z] 42) = w2 at *
        have HC : Hid (Calls Yba.prog 11 #[.pointer (some ⟨b, 0, none⟩), .int .i64 z, .string ⟨#[97, 98, 97, 110, 100, 111, 110, 101, 100]⟩] w2 fun e w' => e = .returned (.tuple #[]) ∧ After w b N z true w') := aband_row w b r N z true _ h2s HRw.out h2c
        clear h2s h2n HSr HRw c1 c2' hNe
        have cN : w2.cell? ⟨N, 0, none⟩ = some (.int .i64 z) := h2c
        clear h2c
        refine HC.out.mono ?_
        rintro e w3 ⟨rfl, r3, hr3, hs3, hN3⟩
        have hng : negInfB r3 = false := ok_open hr3
        have HRk : Hid (Calls Yba.prog 13 #[.pointer (some ⟨b, 0, none⟩)] w3 fun e w' => e = .returned (.float .f64 r3) ∧ w' = w3) := (rank_any b r3 w3 hs3.cell).mono fun e w' ⟨he, hw⟩ => ⟨by rw [he]; rfl, hw⟩
        have HAt : Hid (Calls Yba.prog 14 #[.pointer (some ⟨b, 0, none⟩), .func (.func 15) #[] #[.pointer (some ⟨w3.heap.size, 0, none⟩), .pointer (some ⟨N, 0, none⟩)]] (w3.alloc (.cells #[.int .i64 0] 3)) fun e w' => (∃ n, e = .returned (.int .i64 n)) ∧ Sr w b r3 w' ∧ w'.cell? ⟨w3.heap.size, 0, none⟩ = some (.int .i64 1)) := at_row_open w b r3 N z w3 z1 z2 hs3 hr3 hN3
        have HO : Hid (Row true r3) := hr3
        clear HC hr3 hs3 hN3
        go_wp2_with (first | (go_at_call 13; refine HRk.out.mono ?_; rintro e w' ⟨rfl, rfl⟩) | (go_at_call 12; refine (isinf_neg _ _).mono ?_; rintro e w' ⟨rfl, rfl⟩) | fail)
        refine HAt.out.mono ?_
        rintro e w5 ⟨⟨m, rfl⟩, hs5, hc5⟩
        have HS5 : Hid (Sr w b r3 w5) := hs5
        clear hs5 HAt HRk
        go_wp2
        go_roundw
        case rel => exact ⟨true, j + 1, r3, rfl, by go_num, by omega, HS5.out, HO.out⟩
        case measure => simp [RowKit.intOf]; omega
      | false =>
        go_wp2_with fail
        obtain ⟨h2s, h2c, h2n⟩ := two_step o z HSr.out
        generalize hNe : wr.heap.size + 1 = N at *
        generalize (wr.alloc (.cells #[.int .u8 o, .int .i64 z] 41)).alloc (.cells #[.int .i64 z] 42) = w2 at *
        have HC : Hid (Calls Yba.prog 11 #[.pointer (some ⟨b, 0, none⟩), .int .i64 z, .string ⟨#[97, 98, 97, 110, 100, 111, 110, 101, 100]⟩] w2 fun e w' => e = .returned (.tuple #[]) ∧ After w b N z false w') := aband_row w b r N z false _ h2s HRw.out h2c
        clear h2s h2n HSr HRw c1 c2' hNe
        have cN : w2.cell? ⟨N, 0, none⟩ = some (.int .i64 z) := h2c
        clear h2c
        refine HC.out.mono ?_
        rintro e w3 ⟨rfl, r3, hr3, hs3, hN3⟩
        have hr3' : r3 = 18442240474082181120 := hr3
        have hng : negInfB r3 = true := by rw [hr3']; exact shut_neg
        have HRk : Hid (Calls Yba.prog 13 #[.pointer (some ⟨b, 0, none⟩)] w3 fun e w' => e = .returned (.float .f64 r3) ∧ w' = w3) := (rank_any b r3 w3 hs3.cell).mono fun e w' ⟨he, hw⟩ => ⟨by rw [he]; rfl, hw⟩
        have HAt : Hid (Calls Yba.prog 14 #[.pointer (some ⟨b, 0, none⟩), .func (.func 15) #[] #[.pointer (some ⟨w3.heap.size, 0, none⟩), .pointer (some ⟨N, 0, none⟩)]] (w3.alloc (.cells #[.int .i64 0] 3)) fun e w' => e = .returned (.int .i64 0) ∧ Sr w b r3 w' ∧ w'.cell? ⟨w3.heap.size, 0, none⟩ = some (.int .i64 0)) := at_row_shut w b r3 N w3 hs3 hr3'
        have HO : Hid (Row false r3) := hr3
        clear HC hr3 hr3' hs3 hN3
        go_wp2_with (first | (go_at_call 13; refine HRk.out.mono ?_; rintro e w' ⟨rfl, rfl⟩) | (go_at_call 12; refine (isinf_neg _ _).mono ?_; rintro e w' ⟨rfl, rfl⟩) | fail)
        refine HAt.out.mono ?_
        rintro e w5 ⟨rfl, hs5, hc5⟩
        have HS5 : Hid (Sr w b r3 w5) := hs5
        clear hs5 HAt HRk
        go_wp2
        go_roundw
        case rel => exact ⟨false, j + 1, r3, rfl, by go_num, by omega, HS5.out, HO.out⟩
        case measure => simp [RowKit.intOf]; omega
    · have hlt' : (n : Int) ≤ (j : Int) := by omega
      have HB : Hid (Below w.heap.size w wr) := hs.below
      clear hs hrow
      go_wp2
      go_ret
      exact ⟨rfl, HB.out⟩

end Go.Proofs.Ybulkbdbe
