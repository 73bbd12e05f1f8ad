import Derived.Test.YbulkbdeyRead2
namespace Go.Proofs.Ybulkbdey
open Go.RowKit Go.Deep
set_option linter.unusedVariables false

theorem long_val (bs : List Nat) (at_ i s n : Nat) (hf : Fits bs) (hi : at_ / 8 = i) (hs : at_ % 8 = s) (hn : n ≤ 64) :
    bits .or .u64 (IntKind.u64.wrap ((wordAt bs (8 * i) 64 : Nat) * 2 ^ s)) ((bs.getD (i + 8) 0 : Nat) / 2 ^ (8 - s)) / 2 ^ (64 - n) = ((wordAt bs at_ n : Nat) : Int) := by
  have hs8 : s < 8 := by omega
  have hb := hf.byte (i + 8)
  rw [shl_peek bs at_ i s _ hi hs rfl, div_nat]
  have hp := peekAt_lt bs at_
  have hlt : bs.getD (i + 8) 0 / 2 ^ (8 - s) < 2 ^ s := by
    rw [Nat.div_lt_iff_lt_mul (Nat.two_pow_pos _), ← Nat.pow_add, show s + (8 - s) = 8 by omega]; exact hb
  have e : peekAt bs at_ = wordAt bs at_ (64 - s) * 2 ^ s := by unfold peekAt; rw [hs]
  rw [e] at hp ⊢
  rw [or_add _ _ s (by exact hp) hlt (by omega), ← e, div_nat]
  have := long_eq bs at_ n (by rw [hi]; exact hb) hn
  rw [hi, hs] at this
  rw [this]

set_option maxHeartbeats 1600000 in
theorem readLong_in (bs : List Nat) (R G at_ n : Nat) (w : World) (h : Rd w R G bs at_) (hf : Fits bs) (hat : at_ < 800000) (hn : n ≤ 64) (hn' : 56 < n) (hge : at_ / 8 + 9 ≤ bs.length) :
    Calls Yba.prog 13 #[.pointer (some ⟨R, 0, .none⟩), .int .u64 n] w fun e w' => e = .returned (.int .u64 (wordAt bs at_ n)) ∧ Rd w' R G bs (at_ + n) ∧ Upd (· = R) w w' := by
  have hl := hf.len
  have r0 : w.cell? ⟨R, 0, .none⟩ = some (.slice (some ⟨G, 0, .none⟩) bs.length bs.length) := h.r.cell (i := 0) (by omega)
  have r1 : w.cell? ⟨R, 1, .none⟩ = some (.int .u64 at_) := h.r.cell (i := 1) (by omega)
  have h7 := and7 at_ (by omega)
  obtain ⟨i, hi⟩ : ∃ i, at_ / 8 = i := ⟨_, rfl⟩
  obtain ⟨s, hs⟩ : ∃ s, at_ % 8 = s := ⟨_, rfl⟩
  rw [hs] at h7
  have hi' : (at_ : Int) / 8 = (i : Int) := by omega
  have hlt' : ¬ (bs.length : Int) < (i : Int) + 9 := by omega
  have hile : (i : Int) ≤ (bs.length : Int) := by omega
  have hi8 : (i : Int) + 8 < (bs.length : Int) := by omega
  have hi1024 : (i : Int) ≤ 1024 := by omega
  have hwr : IntKind.u64.wrap ((i : Int) + 8) = (i : Int) + 8 := by rw [IntKind.wrap_u64]; omega
  have hp0 : (0 : Int) ≤ (i : Int) + 8 := by omega
  have hp2 : ((i : Int) + 8).toNat = i + 8 := by omega
  have hne : ¬ bs.length = i := by omega
  have hs8 : s < 8 := by omega
  have hRl : R < w.heap.size := h.r.lt
  have hGl : G < w.heap.size := h.g.lt
  have HV : Hid (bits .or .u64 (IntKind.u64.wrap ((wordAt bs (8 * i) 64 : Nat) * 2 ^ s)) ((bs.getD (i + 8) 0 : Nat) / 2 ^ min (8 - s) 64) / 2 ^ (64 - n) = ((wordAt bs at_ n : Nat) : Int)) := by
    show _ = _
    rw [Nat.min_eq_left (by omega)]; exact long_val bs at_ i s n hf hi hs hn
  have g8 : w.cell? ⟨G, i + 8, .none⟩ = some (.int .u8 (bs.getD (i + 8) 0 : Nat)) := h.g.cell (by omega)
  have hb8 := hf.byte (i + 8)
  have Hbe : Hid (∀ (w1 : World), Below w.heap.size w w1 → Calls Yba.prog 15 #[.agg #[], .slice (some ⟨G, i, .none⟩) (bs.length - i) (bs.length - i)] w1 fun e w' => e = .returned (.int .u64 (wordAt bs (8 * i) 64 : Nat)) ∧ Below w.heap.size w w' ∧ w'.cell? ⟨R, 0, .none⟩ = some (.slice (some ⟨G, 0, .none⟩) bs.length bs.length) ∧ w'.cell? ⟨G, i + 8, .none⟩ = some (.int .u8 (bs.getD (i + 8) 0 : Nat))) := by
    intro w1 hb
    refine (be_any bs (fun j => bs.getD (i + j) 0) G i (bs.length - i) (bs.length - i) w1 (by omega)
      (fun j hj => by
        have := hb.cell (p := ⟨G, i + j, .none⟩) hGl
        rw [this]; exact h.g.cell (by omega)) (fun j => hf.byte _)).mono ?_
    rintro e w' ⟨rfl, hb'⟩
    have hb2 := hb.trans (hb'.mono hb.size)
    exact ⟨by rw [be_word bs i hf.byte]; rfl, hb2, (hb2.cell (p := ⟨R, 0, .none⟩) hRl).trans r0, (hb2.cell (p := ⟨G, i + 8, .none⟩) hGl).trans g8⟩
  generalize bs.getD (i + 8) 0 = b8 at *
  generalize wordAt bs (8 * i) 64 = V at *
  clear hge hi hs
  go_enter Yba.func13, Yba.ntmps13
  go_wp2_with fail
  go_quiet (fail)
  go_wp2_with fail
  go_region_with (go_at_call 15; refine (Hbe.out _ (by exact ⟨rfl, rfl, rfl, Nat.le_refl _, fun _ _ => rfl⟩)).mono ?_; rintro e w' ⟨rfl, hb, r0', g8'⟩)
  all_goals have h1 := h.below hb
  all_goals have q1 : w'.cell? ⟨R, 1, .none⟩ = some (.int .u64 at_) := h1.r.cell (i := 1) (by omega)
  all_goals have q2 := h1.r.frozen 1
  all_goals go_wp2
  all_goals go_ret
  all_goals exact ⟨ret_int HV.out, h1.put _, Upd.setCell (S := (· = R)) (p := ⟨R, 1, .none⟩) (Upd.of_below hb) rfl _⟩
end Go.Proofs.Ybulkbdey
