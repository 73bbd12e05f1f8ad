import Derived.Test.YbulkbdeyRows
import Derived.Test.YbulkbdeyShelf
import Derived.Test.YbulkbdeyArith
import Derived.WalkSpells
import Derived.WalkLawsBesides
import Derived.Deep.OwnRows
import Derived.BigQuiet
import Derived.Deep.QuietTactic
import Derived.Deep.RegionWith
namespace Go.Proofs.Ybulkbdey
open Go.RowKit Go.Deep
set_option linter.unusedVariables false

/-- the bytes lie in block G -/
def Bytes (w : World) (G : Nat) (bs : List Nat) : Prop := w.rowIs G 5 bs.length (fun i => .int .u8 (bs.getD i 0 : Nat))

structure Fits (bs : List Nat) : Prop where
  len : bs.length ≤ 1024
  byte : ∀ i, bs.getD i 0 < 256

theorem bit_val (b s : Nat) (hb : b < 256) : bits .and .u64 (IntKind.u64.wrap ((b : Int) / 2 ^ (7 - s))) 1 = ((b / 2 ^ (7 - s) % 2 : Nat) : Int) := by
  have hd : b / 2 ^ (7 - s) ≤ b := Nat.div_le_self _ _
  rw [div_nat, wrap_nat _ (by omega), and1 _ (by omega)]

set_option maxHeartbeats 400000 in
theorem bit_any (bs : List Nat) (G p : Nat) (w : World) (hG : Bytes w G bs) (hf : Fits bs) (hp : p < 1000000) :
    Calls Yba.prog 12 #[.slice (some ⟨G, 0, .none⟩) bs.length bs.length, .int .u64 p] w fun e w' => e = .returned (.int .u64 (bitAt bs p)) ∧ w' = w := by
  have hb0 := hf.byte (p / 8)
  have hl := hf.len
  have h7 := and7 p (by omega)
  by_cases hlt : p / 8 < bs.length
  · have c0 : w.cell? ⟨G, p / 8, .none⟩ = some (.int .u8 (bs.getD (p / 8) 0 : Nat)) := hG.cell hlt
    have hlt' : (p : Int) / 8 < (bs.length : Int) := by omega
    have Hv : Hid (((bs.getD (p / 8) 0 / 2 ^ (7 - p % 8) % 2 : Nat) : Int) = bitAt bs p) := rfl
    have hs : p % 8 < 8 := by omega
    generalize bs.getD (p / 8) 0 = b at *
    generalize hps : p % 8 = s at *
    clear hps
    go_enter Yba.func12, Yba.ntmps12
    go_wp2
    go_ret
    exact ⟨ret_int ((bit_val b s hb0).trans Hv.out), rfl⟩
  · have hlt' : ¬ (p : Int) / 8 < (bs.length : Int) := by omega
    have Hv : Hid (bitAt bs p = 0) := by
      show bitAt bs p = 0
      unfold bitAt
      rw [List.getD_eq_getElem?_getD, List.getElem?_eq_none (by omega)]; simp
    clear h7
    go_enter Yba.func12, Yba.ntmps12
    go_wp2
    go_ret
    exact ⟨ret_int (by rw [Hv.out]; rfl), rfl⟩

/-- what a call may have turned: the blocks in S, and new ones -/
structure Upd (S : Nat → Prop) (w w' : World) : Prop where
  os : w'.os = w.os
  tape : w'.tape = w.tape
  output : w'.output = w.output
  size : w.heap.size ≤ w'.heap.size
  block : ∀ k, k < w.heap.size → ¬ S k → w'.heap[k]? = w.heap[k]?

namespace Upd
variable {S T : Nat → Prop} {a b c : World}
theorem refl (S : Nat → Prop) (w : World) : Upd S w w := ⟨rfl, rfl, rfl, Nat.le_refl _, fun _ _ _ => rfl⟩
theorem trans (h : Upd S a b) (k : Upd S b c) : Upd S a c :=
  ⟨k.os.trans h.os, k.tape.trans h.tape, k.output.trans h.output, Nat.le_trans h.size k.size, fun i hi hs => (k.block i (Nat.lt_of_lt_of_le hi h.size) hs).trans (h.block i hi hs)⟩
theorem weak (h : Upd S a b) (hST : ∀ k, S k → T k) : Upd T a b := ⟨h.os, h.tape, h.output, h.size, fun k hk hs => h.block k hk (fun q => hs (hST k q))⟩
theorem of_below (h : Below a.heap.size a b) : Upd S a b := ⟨h.os, h.tape, h.output, h.size, fun k hk _ => h.block k hk⟩
theorem setCell (h : Upd S a b) {p : Addr} (hp : S p.block) (v : Value) : Upd S a (b.setCell p v) :=
  ⟨h.os, h.tape, h.output, by simp; exact h.size, fun k hk hs => by
    rw [Below.heap_setCell b p v k (fun e => hs (by rw [e]; exact hp))]; exact h.block k hk hs⟩
theorem drew (h : Upd S a b) : Upd S a b.drew := ⟨h.os, h.tape, h.output, h.size, h.block⟩
theorem row (h : Upd S a b) {k t n : Nat} {f : Nat → Value} (hr : a.rowIs k t n f) (hs : ¬ S k) : b.rowIs k t n f := hr.of_block (h.block k hr.lt hs)
theorem below (h : Upd S a b) {B : Nat} (hS : ∀ k, S k → B ≤ k) (hB : B ≤ a.heap.size) : Below B a b :=
  ⟨h.os, h.tape, h.output, h.size, fun k hk => h.block k (by omega) (fun q => by have := hS k q; omega)⟩
end Upd

theorem cread_step (v b : Nat) (hv : v < 9223372036854775808) (hb : b < 2) : bits .or .u64 ((v : Int) * 2) (b : Int) = ((2 * v + b : Nat) : Int) := by
  have e : (v : Int) * 2 = ((v * 2 ^ 1 : Nat) : Int) := by omega
  rw [e, or_add v b 1 (by omega) (by omega) (by omega)]
  congr 1; omega

set_option maxHeartbeats 800000 in
theorem cread_any (bs : List Nat) (G T at_ n : Nat) (w : World) (hG : Bytes w G bs) (hf : Fits bs) (hT : w.rowIs T 26 1 (fun _ => .int .u64 at_)) (hGT : G ≠ T) (hn : n ≤ 64) (hat : at_ < 900000) :
    Calls Yba.prog 11 #[.slice (some ⟨G, 0, .none⟩) bs.length bs.length, .pointer (some ⟨T, 0, .none⟩), .int .u64 n] w fun e w' => e = .returned (.int .u64 (wordAt bs at_ n)) ∧
      w'.rowIs T 26 1 (fun _ => .int .u64 (at_ + n : Nat)) ∧ Upd (· = T) w w' := by
  go_enter Yba.func11, Yba.ntmps11
  go_wp2
  go_loopw [7, 8] (fun vv jv wr => ∃ j : Nat, j ≤ n ∧ jv = .int .u64 j ∧ vv = .int .u64 (wordAt bs at_ j) ∧ wr.rowIs T 26 1 (fun _ => .int .u64 (at_ + j : Nat)) ∧ Upd (· = T) w wr) (fun _ jv _ => n - (intOf jv).toNat)
  case atStart => exact ⟨0, by omega, rfl, rfl, hT, Upd.refl _ _⟩
  case round =>
    obtain ⟨j, hj, rfl, rfl, hTr, hU⟩ := hrel
    by_cases hlt : j < n
    · have hlt' : (j : Int) < (n : Int) := by omega
      have c0 : wr.cell? ⟨T, 0, .none⟩ = some (.int .u64 (at_ + j : Nat)) := hTr.cell (by omega)
      have f0 := hTr.frozen 0
      have hG' : Bytes wr G bs := hU.row hG hGT
      have hb := bitAt_lt bs (at_ + j)
      have hw := wordAt_lt bs at_ j
      have hw' : wordAt bs at_ j < 9223372036854775808 := Nat.lt_of_lt_of_le hw (show 2 ^ j ≤ 2 ^ 63 from Nat.pow_le_pow_right (by decide) (by omega))
      have hstep := cread_step _ _ hw' hb
      have HW : Hid (wordAt bs at_ (j + 1) = 2 * wordAt bs at_ j + bitAt bs (at_ + j)) := rfl
      clear hw
      generalize wordAt bs at_ j = v at *
      generalize hq : at_ + j = q at *
      have Hq : Hid (at_ + j = q) := hq
      have hq2 : q < 1000000 := by omega
      clear hq
      go_wp2_with (go_at_call 12; refine (bit_any bs G _ _ hG' hf hq2).mono ?_; rintro e w' ⟨rfl, rfl⟩)
      go_roundw
      case rel =>
        refine ⟨j + 1, by omega, by go_num, ?_, ?_, (hU.setCell rfl _)⟩
        · rw [HW.out]; go_num
        · refine (hTr.set 0 _).congr fun i hi => ?_
          have : i = 0 := by omega
          rw [if_pos this]
          have := Hq.out
          go_num
      case measure => simp [intOf]; omega
    · have hjn : j = n := by omega
      subst hjn
      go_wp2
      go_ret
      exact ⟨rfl, hTr, hU⟩
end Go.Proofs.Ybulkbdey
