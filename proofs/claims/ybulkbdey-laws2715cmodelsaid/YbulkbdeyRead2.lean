import Derived.Test.YbulkbdeyPeek2
namespace Go.Proofs.Ybulkbdey
open Go.RowKit Go.Deep
set_option linter.unusedVariables false

theorem Rd.below {w w1 : World} {R G at_ : Nat} {bs : List Nat} (h : Rd w R G bs at_) (hb : Below w.heap.size w w1) : Rd w1 R G bs at_ :=
  ⟨h.r.of_block (hb.block _ h.r.lt), h.g.of_block (hb.block _ h.g.lt), h.ne⟩

theorem Rd.put {w : World} {R G at_ : Nat} {bs : List Nat} (h : Rd w R G bs at_) (q : Nat) : Rd (w.setCell ⟨R, 1, .none⟩ (.int .u64 q)) R G bs q :=
  ⟨(h.r.set 1 _).congr fun i hi => by
    by_cases e : i = 1
    · rw [if_pos e, if_neg (by omega)]
    · rw [if_neg e, if_pos (by omega), if_pos (by omega)], h.g.setOther h.ne _, h.ne⟩

set_option maxHeartbeats 800000 in
theorem read_small (bs : List Nat) (R G at_ n : Nat) (w : World) (h : Rd w R G bs at_) (hf : Fits bs) (hat : at_ < 900000) (hn : n ≤ 56) :
    Calls Yba.prog 7 #[.pointer (some ⟨R, 0, .none⟩), .int .u64 n] w fun e w' => e = .returned (.int .u64 (wordAt bs at_ n)) ∧ Rd w' R G bs (at_ + n) ∧ Upd (· = R) w w' := by
  have hn' : ¬ (56 : Int) < (n : Int) := by omega
  have hn2 : (n : Int) ≤ 56 := by omega
  have HV : Hid ((peekAt bs at_ : Int) / 2 ^ (64 - n) = ((wordAt bs at_ n : Nat) : Int)) := by
    show _ = _
    rw [div_nat, peekAt_read bs at_ n hn]
  have hpk := peekAt_lt bs at_
  go_enter Yba.func7, Yba.ntmps7
  go_wp2_with fail
  refine (peek_any bs R G at_ w h hf (by omega)).mono ?_
  rintro e w1 ⟨rfl, hb⟩
  have h1 := h.below hb
  have r1 : w1.cell? ⟨R, 1, .none⟩ = some (.int .u64 at_) := h1.r.cell (i := 1) (by omega)
  have f1 := h1.r.frozen 1
  generalize peekAt bs at_ = P at *
  go_wp2
  go_ret
  exact ⟨ret_int HV.out, h1.put _, Upd.setCell (S := (· = R)) (p := ⟨R, 1, .none⟩) (Upd.of_below hb) rfl _⟩

theorem long_or (a b : Nat) (ha : a < 4294967296) (hb : b < 4294967296) : bits .or .u64 ((a : Int) * 4294967296) (b : Int) = ((a * 2 ^ 32 + b : Nat) : Int) := by
  have e : (a : Int) * 4294967296 = ((a * 2 ^ 32 : Nat) : Int) := by omega
  rw [e, or_add a b 32 (by omega) (by omega) (by omega)]

theorem Rd.upd {w w1 : World} {R G at_ : Nat} {bs : List Nat} {S : Nat → Prop} (h : Rd w R G bs at_) (hu : Upd S w w1) (hR : ¬ S R) (hG : ¬ S G) : Rd w1 R G bs at_ :=
  ⟨hu.row h.r hR, hu.row h.g hG, h.ne⟩

set_option maxHeartbeats 800000 in
theorem readLong_end (bs : List Nat) (R G at_ n : Nat) (w : World) (h : Rd w R G bs at_) (hf : Fits bs) (hat : at_ < 800000) (hn : n ≤ 64) (hn' : 56 < n) (hge : bs.length < at_ / 8 + 9) :
    Calls Yba.prog 13 #[.pointer (some ⟨R, 0, .none⟩), .int .u64 n] w fun e w' => e = .returned (.int .u64 (wordAt bs at_ n)) ∧ Rd w' R G bs (at_ + n) ∧ Upd (· = R) w w' := by
  have hl := hf.len
  have r0 : w.cell? ⟨R, 0, .none⟩ = some (.slice (some ⟨G, 0, .none⟩) bs.length bs.length) := h.r.cell (i := 0) (by omega)
  have r1 : w.cell? ⟨R, 1, .none⟩ = some (.int .u64 at_) := h.r.cell (i := 1) (by omega)
  have h7 := and7 at_ (by omega)
  obtain ⟨i, hi⟩ : ∃ i, at_ / 8 = i := ⟨_, rfl⟩
  obtain ⟨s, hs⟩ : ∃ s, at_ % 8 = s := ⟨_, rfl⟩
  rw [hs] at h7
  have hi' : (at_ : Int) / 8 = (i : Int) := by omega
  have hlt' : (bs.length : Int) < (i : Int) + 9 := by omega
  obtain ⟨m, hm⟩ : ∃ m, n = m + 32 := ⟨n - 32, by omega⟩
  subst hm
  have w1lt := wordAt_lt bs at_ m
  have w2lt := wordAt_lt bs (at_ + m) 32
  have w1lt' : wordAt bs at_ m < 4294967296 := Nat.lt_of_lt_of_le w1lt (show 2 ^ m ≤ 2 ^ 32 from Nat.pow_le_pow_right (by decide) (by omega))
  have HV : Hid (bits .or .u64 ((wordAt bs at_ m : Int) * 4294967296) (wordAt bs (at_ + m) 32 : Int) = ((wordAt bs at_ (m + 32) : Nat) : Int)) := by
    show _ = _
    rw [long_or _ _ w1lt' w2lt]
    have := split_read bs at_ (m + 32) (by omega)
    simp only [Nat.add_sub_cancel] at this
    rw [this]
  clear w1lt hge hi hs
  go_enter Yba.func13, Yba.ntmps13
  go_wp2_with fail
  go_quiet (fail)
  go_wp2_with fail
  have h1 : Rd (w.drewN nq) R G bs at_ := ⟨h.r, h.g, h.ne⟩
  refine (read_small bs R G at_ m _ h1 hf (by omega) (by omega)).mono ?_
  rintro e w1 ⟨rfl, h2, hu⟩
  go_wp2_with fail
  refine (read_small bs R G (at_ + m) 32 w1 h2 hf (by omega) (by omega)).mono ?_
  rintro e w2 ⟨rfl, h3, hu2⟩
  go_wp2
  go_ret
  exact ⟨ret_int HV.out, by rw [show at_ + (m + 32) = at_ + m + 32 by omega]; exact h3, (show Upd (· = R) w (w.drewN nq) from ⟨rfl, rfl, rfl, Nat.le_refl _, fun _ _ _ => rfl⟩).trans (hu.trans hu2)⟩
end Go.Proofs.Ybulkbdey
