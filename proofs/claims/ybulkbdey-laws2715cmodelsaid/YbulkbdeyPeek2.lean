import Derived.Test.YbulkbdeyPeek
import Derived.Laws.CopyOwn
namespace Go.Proofs.Ybulkbdey
open Go.RowKit Go.Deep
set_option linter.unusedVariables false

set_option maxHeartbeats 800000 in
theorem peek_past (bs : List Nat) (R G at_ : Nat) (w : World) (h : Rd w R G bs at_) (hf : Fits bs) (hat : at_ < 1000000) (hlt : ¬ at_ / 8 < bs.length) :
    Calls Yba.prog 9 #[.pointer (some ⟨R, 0, .none⟩)] w fun e w' => e = .returned (.int .u64 (peekAt bs at_)) ∧ Below w.heap.size w w' := by
  have hl := hf.len
  have r0 : w.cell? ⟨R, 0, .none⟩ = some (.slice (some ⟨G, 0, .none⟩) bs.length bs.length) := h.r.cell (i := 0) (by omega)
  have r1 : w.cell? ⟨R, 1, .none⟩ = some (.int .u64 at_) := h.r.cell (i := 1) (by omega)
  have h7 := and7 at_ (by omega)
  obtain ⟨i, hi⟩ : ∃ i, at_ / 8 = i := ⟨_, rfl⟩
  obtain ⟨s, hs⟩ : ∃ s, at_ % 8 = s := ⟨_, rfl⟩
  rw [hs] at h7
  have hi' : (at_ : Int) / 8 = (i : Int) := by omega
  have hlt' : ¬ (i : Int) + 8 ≤ (bs.length : Int) := by omega
  have hlt2 : ¬ (i : Int) < (bs.length : Int) := by omega
  have hs8 : s < 8 := by omega
  have hRl : R < w.heap.size := h.r.lt
  have hw0 : wordAt bs (8 * i) 64 = 0 := by
    rw [be_word bs i hf.byte]
    have z : ∀ j, bs.getD (i + j) 0 = 0 := fun j => by rw [List.getD_eq_getElem?_getD, List.getElem?_eq_none (by omega)]; rfl
    have z0 := z 0
    rw [Nat.add_zero] at z0
    rw [z0, z 1, z 2, z 3, z 4, z 5, z 6, z 7]
  have Hsh : Hid (IntKind.u64.wrap 0 = ((peekAt bs at_ : Nat) : Int)) := by
    have := shl_peek bs at_ i s 0 hi hs hw0.symm
    show IntKind.u64.wrap 0 = ((peekAt bs at_ : Nat) : Int)
    simpa using this
  have Hbe : Hid (Calls Yba.prog 15 #[.agg #[], .slice (some ⟨w.heap.size, 0, .none⟩) 8 8] (w.alloc (.cells #[.int .u8 0, .int .u8 0, .int .u8 0, .int .u8 0, .int .u8 0, .int .u8 0, .int .u8 0, .int .u8 0] 44)).drew fun e w' => e = .returned (.int .u64 0) ∧ Below w.heap.size w w' ∧ w'.cell? ⟨R, 1, .none⟩ = some (.int .u64 at_)) := by
    have := be_any bs (fun _ => 0) w.heap.size 0 8 8 (w.alloc (.cells #[.int .u8 0, .int .u8 0, .int .u8 0, .int .u8 0, .int .u8 0, .int .u8 0, .int .u8 0, .int .u8 0] 44)).drew (by omega) (fun j hj => by
      rw [Nat.zero_add, World.cell?_drew, World.cell?_alloc_new]
      match j, hj with
      | 0, _ => rfl
      | 1, _ => rfl
      | 2, _ => rfl
      | 3, _ => rfl
      | 4, _ => rfl
      | 5, _ => rfl
      | 6, _ => rfl
      | 7, _ => rfl) (fun _ => by decide)
    refine this.mono ?_
    rintro e w' ⟨rfl, hb⟩
    refine ⟨rfl, (show Below w.heap.size w _ from ((Below.refl w.heap.size w).alloc (Nat.le_refl _) _).drew).trans (hb.mono (by simp)), ?_⟩
    rw [hb.cell (p := ⟨R, 1, .none⟩) (by simp; omega), World.cell?_drew, World.cell?_alloc_past _ _ _ hRl]
    exact r1
  clear h hi hs hlt hw0
  go_enter Yba.func9, Yba.ntmps9
  go_wp2
  go_region_with (go_at_call 15; refine Hbe.out.mono ?_; rintro e w' ⟨rfl, hb, r1'⟩)
  all_goals go_wp2
  all_goals go_ret
  all_goals exact ⟨ret_int Hsh.out, hb⟩

theorem left_cells (bs : List Nat) (i : Nat) (hlt : i < bs.length) (hge : ¬ i + 8 ≤ bs.length) (j : Nat) (hj : j < 8) :
    (splice (List.replicate 8 (Value.int .u8 0)) 0 ((List.range (bs.length - i)).map fun j => Value.int .u8 (bs.getD (i + j) 0 : Nat)))[j]? = some (.int .u8 (bs.getD (i + j) 0 : Nat)) := by
  unfold splice
  simp only [List.take_zero, List.nil_append, List.length_map, List.length_range, Nat.zero_add]
  by_cases h : j < bs.length - i
  · rw [List.getElem?_append_left (by simp; omega)]
    simp [h]
  · rw [List.getElem?_append_right (by simp; omega)]
    have e : bs.getD (i + j) 0 = 0 := by rw [List.getD_eq_getElem?_getD, List.getElem?_eq_none (by omega)]; rfl
    rw [e, List.getElem?_drop, List.getElem?_replicate, if_pos (by simp; omega)]
    rfl

set_option maxHeartbeats 800000 in
theorem peek_end (bs : List Nat) (R G at_ : Nat) (w : World) (h : Rd w R G bs at_) (hf : Fits bs) (hat : at_ < 1000000) (hlt : at_ / 8 < bs.length) (hge : ¬ at_ / 8 + 8 ≤ bs.length) :
    Calls Yba.prog 9 #[.pointer (some ⟨R, 0, .none⟩)] w fun e w' => e = .returned (.int .u64 (peekAt bs at_)) ∧ Below w.heap.size w w' := by
  have hl := hf.len
  have r0 : w.cell? ⟨R, 0, .none⟩ = some (.slice (some ⟨G, 0, .none⟩) bs.length bs.length) := h.r.cell (i := 0) (by omega)
  have r1 : w.cell? ⟨R, 1, .none⟩ = some (.int .u64 at_) := h.r.cell (i := 1) (by omega)
  have h7 := and7 at_ (by omega)
  obtain ⟨i, hi⟩ : ∃ i, at_ / 8 = i := ⟨_, rfl⟩
  obtain ⟨s, hs⟩ : ∃ s, at_ % 8 = s := ⟨_, rfl⟩
  rw [hs] at h7
  have hi' : (at_ : Int) / 8 = (i : Int) := by omega
  have hlt' : ¬ (i : Int) + 8 ≤ (bs.length : Int) := by omega
  have hlt2 : (i : Int) < (bs.length : Int) := by omega
  have hile : (i : Int) ≤ (bs.length : Int) := by omega
  have hne : ¬ bs.length = i := by omega
  have hs8 : s < 8 := by omega
  have hRl : R < w.heap.size := h.r.lt
  have hGl : G < w.heap.size := h.g.lt
  have Hsh : Hid (IntKind.u64.wrap ((wordAt bs (8 * i) 64 : Nat) * 2 ^ s) = ((peekAt bs at_ : Nat) : Int)) := shl_peek bs at_ i s _ hi hs rfl
  obtain ⟨cs, hcs⟩ : ∃ cs, Hid (cs = (List.range (bs.length - i)).map fun j => Value.int .u8 (bs.getD (i + j) 0 : Nat)) := ⟨_, rfl⟩
  have s1 : Hid (cs.length = Nat.min (bs.length - i) 8) := by
    show cs.length = Nat.min (bs.length - i) 8
    have e : Nat.min (bs.length - i) 8 = bs.length - i := Nat.min_eq_left (by omega)
    rw [hcs.out, e]; simp
  have s2 : Hid (∀ j v, cs[j]? = some v → (w.alloc (.cells #[.int .u8 0, .int .u8 0, .int .u8 0, .int .u8 0, .int .u8 0, .int .u8 0, .int .u8 0, .int .u8 0] 44)).drew.cell? ((⟨G, i, .none⟩ : Addr).add j) = some v) := by
    intro j v hv
    rw [hcs.out] at hv
    have hj : j < bs.length - i := by
      have := (List.getElem?_eq_some_iff.1 hv).1
      simpa using this
    simp [hj] at hv
    rw [WideShapes.add_plain, World.cell?_drew, World.cell?_alloc_past _ _ _ hGl, ← hv]
    exact h.g.cell (by omega)
  have s4 : Hid ((w.alloc (.cells #[.int .u8 0, .int .u8 0, .int .u8 0, .int .u8 0, .int .u8 0, .int .u8 0, .int .u8 0, .int .u8 0] 44)).drew.heap[w.heap.size]? = some (.cells [Value.int .u8 0, .int .u8 0, .int .u8 0, .int .u8 0, .int .u8 0, .int .u8 0, .int .u8 0, .int .u8 0].toArray 44 (0, 0))) := blk_alloc_new _ _
  have s3 : Hid (∀ v ∈ cs, v.oneCell' = true) := by
    intro v hv
    rw [hcs.out] at hv
    obtain ⟨y, _, rfl⟩ := List.mem_map.1 hv
    rfl
  have Hbe : Hid (∀ w2 : World, Hid (w2.heap[w.heap.size]? = some (.cells (splice [Value.int .u8 0, .int .u8 0, .int .u8 0, .int .u8 0, .int .u8 0, .int .u8 0, .int .u8 0, .int .u8 0] 0 cs).toArray 44 (0, 0))) → Below w.heap.size w w2 → Calls Yba.prog 15 #[.agg #[], .slice (some ⟨w.heap.size, 0, .none⟩) 8 8] w2.drew fun e w' => e = .returned (.int .u64 (wordAt bs (8 * i) 64 : Nat)) ∧ Below w.heap.size w w' ∧ w'.cell? ⟨R, 1, .none⟩ = some (.int .u64 at_)) := by
    intro w2 Hg hb2
    have := be_any bs (fun j => bs.getD (i + j) 0) w.heap.size 0 8 8 w2.drew (by omega) (fun j hj => by
      rw [Nat.zero_add, World.cell?_drew]
      have := left_cells bs i (by omega) (by omega) j hj
      simp only [World.cell?, Hg.out]
      rw [hcs.out]
      simpa using this) (fun j => hf.byte _)
    refine this.mono ?_
    rintro e w' ⟨rfl, hb⟩
    have hlt : w.heap.size < w2.heap.size := by
      have := (Array.getElem?_eq_some_iff.1 Hg.out).1
      exact this
    refine ⟨by rw [be_word bs i hf.byte]; rfl, (show Below w.heap.size w _ from hb2.drew).trans (hb.mono (by have := hb2.size; simp; omega)), ?_⟩
    rw [hb.cell (p := ⟨R, 1, .none⟩) (by simp; omega), World.cell?_drew, hb2.cell (p := ⟨R, 1, .none⟩) hRl]
    exact r1
  clear h hi hs hlt
  go_enter Yba.func9, Yba.ntmps9
  go_wp2
  go_region_law (refine step_copy_splice rfl (.tmp 41) (.tmp 47) 22 22 rfl 5 Yba.underlying22 (by kernel_rfl) (some ⟨w.heap.size, 0, .none⟩) (some ⟨G, i, .none⟩) 8 8 (bs.length - i) (bs.length - i) (by simp [Act.eval, Act.put]) (by simp [Act.eval, Act.put]) w.heap.size 0 [Value.int .u8 0, .int .u8 0, .int .u8 0, .int .u8 0, .int .u8 0, .int .u8 0, .int .u8 0, .int .u8 0] 44 s4.out cs s1.out (fun _ => ⟨rfl, _, rfl, s2.out⟩) (by have := s1.out; have e : Nat.min (bs.length - i) 8 ≤ 8 := Nat.min_le_right _ _; simp; omega) s3.out w.heap.size w (by exact ((Below.refl w.heap.size w).alloc (Nat.le_refl _) _).drew) (Nat.le_refl _) ?_; intro w2 HG2 hB2)
  have hR2 : w2.cell? ⟨R, 1, .none⟩ = some (.int .u64 at_) := by rw [hB2.cell (p := ⟨R, 1, .none⟩) hRl]; exact r1
  have Hb3 : Hid (Calls Yba.prog 15 #[.agg #[], .slice (some ⟨w.heap.size, 0, .none⟩) 8 8] w2.drew fun e w' => e = .returned (.int .u64 (wordAt bs (8 * i) 64 : Nat)) ∧ Below w.heap.size w w' ∧ w'.cell? ⟨R, 1, .none⟩ = some (.int .u64 at_)) := Hbe.out w2 HG2 hB2
  clear Hbe HG2 s1 s2 s3 s4
  go_wp2
  go_region_with (go_at_call 15; refine Hb3.out.mono ?_; rintro e w' ⟨rfl, hb, r1'⟩)
  all_goals go_wp2
  all_goals go_ret
  all_goals exact ⟨ret_int Hsh.out, hb⟩

theorem peek_any (bs : List Nat) (R G at_ : Nat) (w : World) (h : Rd w R G bs at_) (hf : Fits bs) (hat : at_ < 1000000) :
    Calls Yba.prog 9 #[.pointer (some ⟨R, 0, .none⟩)] w fun e w' => e = .returned (.int .u64 (peekAt bs at_)) ∧ Below w.heap.size w w' := by
  by_cases h1 : at_ / 8 + 8 ≤ bs.length
  · exact peek_in bs R G at_ w h hf hat h1
  · by_cases h2 : at_ / 8 < bs.length
    · exact peek_end bs R G at_ w h hf hat h2 h1
    · exact peek_past bs R G at_ w h hf hat h2
end Go.Proofs.Ybulkbdey
