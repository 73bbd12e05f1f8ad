import Derived.Test.YbulkbdeyResid
import Derived.Test.YbulkbdeyModel
namespace Go.Proofs.Ybulkbdey
open Go.RowKit Go.Deep
set_option linter.unusedVariables false

theorem Yba.info5 : (Yba.prog.info? 5).map (fun i => (i.zero, i.size, i.bytes)) = some (some (.int .u8 0), 1, 1) := by kernel_rfl

theorem made_replicate (z : Value) (n : Nat) : madeCells #[z] n = (List.replicate n z).toArray := by
  rw [← toList_madeCells_one]

/-- 'copy(bc, b)': the new row then holds the bytes -/
theorem copy_in (bs : List Nat) (a0 : Option Addr) (cap0 : Nat) (w : World)
    (hsrc : ∀ i, i < bs.length → ∃ x : Addr, a0 = some x ∧ x.block < w.heap.size ∧ ∀ j, j < bs.length → w.cell? (x.add j) = some (.int .u8 (bs.getD j 0 : Nat))) :
    ∃ w2, (∀ ty, (Builtin.copy_ #[22, 22] ty #[.slice (some ⟨w.heap.size, 0, .none⟩) bs.length bs.length, .slice a0 bs.length cap0]).run Yba.prog (w.alloc (.cells (madeCells #[.int .u8 0] bs.length) 5)) = .ok (.int .i64 bs.length) w2) ∧
      Bytes w2 w.heap.size bs ∧ Below w.heap.size w w2 := by
  rw [made_replicate]
  have hnew := World.rowIs_alloc w (List.replicate bs.length (.int .u8 0)).toArray 5 (fun _ => .int .u8 0) (fun i hi => by
    have : i < bs.length := by simpa using hi
    simp [this])
  by_cases h0 : bs.length = 0
  · refine ⟨w.alloc (.cells (List.replicate bs.length (.int .u8 0)).toArray 5), fun ty => ?_, ?_, (Below.refl _ _).alloc (Nat.le_refl _) _⟩
    · have := run_copy_none (P := Yba.prog) (w.alloc (.cells (List.replicate bs.length (.int .u8 0)).toArray 5)) 22 22 ty 5 (some ⟨w.heap.size, 0, .none⟩) a0 bs.length bs.length bs.length cap0 Yba.underlying22 (by kernel_rfl) (by rw [h0]; rfl)
      rw [this, h0]; rfl
    · have e : (List.replicate bs.length (Value.int .u8 0)).toArray.size = bs.length := by simp
      rw [e] at hnew
      exact hnew.congr fun i hi => by omega
  · obtain ⟨x, rfl, hxl, hxc⟩ := hsrc 0 (by omega)
    have hlen : ((List.range bs.length).map fun j => Value.int .u8 (bs.getD j 0 : Nat)).length = bs.length := by simp
    have hrun := fun ty => run_copy_row (P := Yba.prog) (w.alloc (.cells (List.replicate bs.length (.int .u8 0)).toArray 5)) 22 22 ty 5 w.heap.size 0 bs.length bs.length x bs.length cap0 (List.replicate bs.length (.int .u8 0)).toArray 5
        ((List.range bs.length).map fun j => Value.int .u8 (bs.getD j 0 : Nat)) Yba.underlying22 (by kernel_rfl) (blk_alloc_new _ _) (by rw [hlen]; exact (Nat.min_self _).symm)
        (fun j v hv => by
          have hj : j < bs.length := by
            have := (List.getElem?_eq_some_iff.1 hv).1
            simpa using this
          refine Lib.cell?_alloc_some _ ?_
          rw [hxc j hj, ← hv]
          simp [hj]) (by simp) (fun v hv => by
          obtain ⟨y, _, rfl⟩ := List.mem_map.1 hv
          rfl)
    have e0 : (goInt ((List.range bs.length).map fun j => Value.int .u8 (bs.getD j 0 : Nat)).length) = .int .i64 bs.length := by rw [hlen]; rfl
    refine ⟨_, fun ty => (hrun ty).trans (by rw [e0]), ⟨_, setRow_heap _ _ _ _ 5 _ (blk_alloc_new _ _), by simp, fun i hi => ?_⟩, below_setRow ((Below.refl w.heap.size w).alloc (Nat.le_refl _) _) (Nat.le_refl _) _⟩
    simp [hi]

set_option maxHeartbeats 3200000 in
set_option maxRecDepth 100000 in
theorem law_any (bs : List Nat) (a0 : Option Addr) (cap0 : Nat) (s nn0 fill : Nat) (w : World) (hf : Fits bs) (hs : s < 65536) (hn : nn0 < 65536) (hfill : fill < 18446744073709551616)
    (hsrc : ∀ i, i < bs.length → ∃ x : Addr, a0 = some x ∧ x.block < w.heap.size ∧ ∀ j, j < bs.length → w.cell? (x.add j) = some (.int .u8 (bs.getD j 0 : Nat))) :
    Calls Yba.prog 3 #[.slice a0 bs.length cap0, .int .u16 s, .int .u16 nn0, .int .u64 fill] w fun e w' => e = .returned (.bool true) ∧ Below w.heap.size w w' := by
  have hl := hf.len
  obtain ⟨n, hnn⟩ : ∃ n, nn0 % 513 = n := ⟨_, rfl⟩
  have hn512 : n ≤ 512 := by omega
  have hmod : (nn0 : Int) % 513 = (n : Int) := by omega
  have mk1 := fun wx => run_make_row' (P := Yba.prog) 22 5 _ _ Yba.underlying22 Yba.info5 rfl .i64 .i64 bs.length (by omega) (by omega) wx
  have mk2 := fun wx => run_make_row' (P := Yba.prog) 25 24 _ _ Yba.underlying25 Yba.info24 rfl .i64 .i64 n (by omega) (by omega) wx
  obtain ⟨w2, hcp, hG2, hB2⟩ := copy_in bs a0 cap0 w hsrc
  generalize madeCells #[.int .u8 0] bs.length = C at mk1 hcp
  clear hnn
  have HG2 : Hid (Bytes w2 w.heap.size bs) := hG2
  have hlt2 : w.heap.size < w2.heap.size := hG2.lt
  clear hsrc hG2
  go_enter Yba.func3, Yba.ntmps3
  go_wp2_with fail
  go_loopw [33] (fun iv wr => ∃ k : Nat, k ≤ n ∧ iv = .int .i64 k ∧ wr.rowIs w2.heap.size 24 n (fun i => .int .u64 (if i < k then bits .or .u64 fill 1 else 0)) ∧ Bytes wr w.heap.size bs ∧ Below w.heap.size w wr) (fun iv _ => n - (intOf iv).toNat)
  case atStart =>
    refine ⟨0, Nat.zero_le _, rfl, (World.rowIs_made w2 (.int .u64 0) n 24).congr fun i hi => by rw [if_neg (by omega)], HG2.out.alloc _, hB2.alloc (by omega) _⟩
  case round =>
    clear mk1 mk2 hcp HG2 hB2
    obtain ⟨k, hk, rfl, hU, hG, hB⟩ := hrel
    by_cases hlt : k < n
    · have hlt' : (k : Int) < (n : Int) := by omega
      have u0 : wr.cell? ⟨w2.heap.size, k, .none⟩ = some (.int .u64 (if k < k then bits .or .u64 fill 1 else 0)) := hU.cell hlt
      have uf := hU.frozen k
      rw [if_neg (by omega)] at u0
      go_wp2_with fail
      go_roundw
      case rel =>
        refine ⟨k + 1, by omega, by go_num, (hU.set k _).congr fun i hi => ?_, hG.setOther (by simp; omega) _, hB.setCell (by simp; omega) _⟩
        by_cases e : i = k
        · subst e; rw [if_pos rfl, if_pos (by omega)]
        · rw [if_neg e]
          by_cases e2 : i < k
          · rw [if_pos e2, if_pos (by omega)]
          · rw [if_neg e2, if_neg (by omega)]
      case measure => simp [intOf]; omega
    · have hke : k = n := by omega
      subst hke
      have hlt' : ¬ (k : Int) < (k : Int) := by omega
      go_wp2_with fail
      have hUl := hU.lt
      have hGl := hG.lt
      have hR0 := World.rowIs_alloc wr #[.slice (some ⟨w.heap.size, 0, .none⟩) bs.length bs.length, .int .u64 (s : Int)] 28 (fun o => if o = 0 then .slice (some ⟨w.heap.size, 0, .none⟩) bs.length bs.length else .int .u64 s) (fun o ho => by
        have ho2 : o < 2 := by simpa using ho
        match o, ho2 with
        | 0, _ => rfl
        | 1, _ => rfl)
      have hRd : Rd (wr.alloc (.cells #[.slice (some ⟨w.heap.size, 0, .none⟩) bs.length bs.length, .int .u64 (s : Int)] 28)) wr.heap.size w.heap.size bs s := ⟨hR0, hG.alloc _, by omega⟩
      refine (resid_any bs wr.heap.size w.heap.size w2.heap.size s k _ _ hRd (hU.alloc _) hf hs hn512 (by omega) (by omega) (fun i => ⟨_, rfl⟩)).mono ?_
      rintro e w3 ⟨rfl, hRs⟩
      have hB3 : Below w.heap.size w w3 := (hB.alloc (by omega) _).trans (hRs.upd.below (fun q hq => by omega) (by simp; omega))
      clear hR0 hRd hU hG hB
      have hres : w3.rowIs w2.heap.size 24 k (fun i => .int .u64 (resAt bs s k i)) := hRs.u.congr fun i hi => by rw [if_pos (by omega)]
      have hrd := hRs.rd
      clear hRs
      go_wp2_with fail
      refine (model_any bs w.heap.size s k w3 hrd.g hf hs hn512).mono ?_
      rintro e w4 ⟨rfl, hB4, hwant⟩
      have hrd4 := hrd.below hB4
      have hres4 : w4.rowIs w2.heap.size 24 k (fun i => .int .u64 (resAt bs s k i)) := hres.of_block (hB4.block _ hres.lt)
      have hB5 : Below w.heap.size w w4 := hB3.trans (hB4.mono (by have := hB3.size; omega))
      clear hB3 hB4 hres hrd
      have r1 : w4.cell? ⟨wr.heap.size, 1, .none⟩ = some (.int .u64 (grpAt bs s k ((k + 31) / 32))) := hrd4.r.cell (i := 1) (by omega)
      generalize grpAt bs s k ((k + 31) / 32) = A at *
      have hne : ((A : Int) != A) = false := by simp
      go_wp2_with fail
      go_loopw [16] (fun iv wx => ∃ i q : Nat, i ≤ k ∧ iv = .int .i64 i ∧ wx = w4.drewN q) (fun iv _ => k - (intOf iv).toNat)
      case atStart => exact ⟨0, 0, Nat.zero_le _, rfl, rfl⟩
      case round =>
        obtain ⟨i, q, hi, rfl, rfl⟩ := hrel
        by_cases hlt : i < k
        · have hlt2 : (i : Int) < (k : Int) := by omega
          have c1 : w4.cell? ⟨w2.heap.size, i, .none⟩ = some (.int .u64 (resAt bs s k i)) := hres4.cell hlt
          have c2 : w4.cell? ⟨w3.heap.size + 1, i, .none⟩ = some (.int .u64 (resAt bs s k i)) := hwant.cell hlt
          generalize resAt bs s k i = V at *
          have hneV : ((V : Int) != V) = false := by simp
          go_wp2_with fail
          go_quiet (fail)
          go_wp2_with fail
          go_roundw
          case rel => exact ⟨i + 1, _, by omega, by go_num, rfl⟩
          case measure => simp [intOf]; omega
        · have hlt2 : ¬ (i : Int) < (k : Int) := by omega
          go_wp2_with fail
          go_ret
          exact ⟨rfl, hB5.os, hB5.tape, hB5.output, hB5.size, hB5.block⟩

set_option maxRecDepth 100000 in
theorem law_long (a0 : Option Addr) (len0 cap0 : Nat) (a1 a2 a3 : Int) (w : World) (hl' : (1024 : Int) < (len0 : Int)) :
    Calls Yba.prog 3 #[.slice a0 len0 cap0, .int .u16 a1, .int .u16 a2, .int .u64 a3] w fun e w' => e = .returned (.bool true) ∧ Below w.heap.size w w' := by
  go_enter Yba.func3, Yba.ntmps3
  go_wp2
  go_ret
  exact ⟨rfl, Below.refl _ _⟩

theorem block_lt {w : World} {a : Addr} {v : Value} (h : w.cell? a = some v) : a.block < w.heap.size := by
  unfold World.cell? at h
  rcases Nat.lt_or_ge a.block w.heap.size with h' | h'
  · exact h'
  · rw [Array.getElem?_eq_none h'] at h
    cases h
end Go.Proofs.Ybulkbdey
