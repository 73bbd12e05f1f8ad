import Derived.Test.YbulkbdeyRead
import Derived.Lib.EndianZ
namespace Go.Proofs.Ybulkbdey
open Go.RowKit Go.Deep
set_option linter.unusedVariables false

/-- eight bytes spell sixty-four bits -/
theorem be_word (bs : List Nat) (i : Nat) (hb : ∀ j, bs.getD j 0 < 256) :
    wordAt bs (8 * i) 64 = (((((((bs.getD i 0 * 256 + bs.getD (i + 1) 0) * 256 + bs.getD (i + 2) 0) * 256 + bs.getD (i + 3) 0) * 256 + bs.getD (i + 4) 0) * 256 + bs.getD (i + 5) 0) * 256 + bs.getD (i + 6) 0) * 256 + bs.getD (i + 7) 0) := by
  have byte : ∀ j, wordAt bs (8 * j) 8 = bs.getD j 0 := fun j => by
    have := wordAt_byte bs j (hb j) 8 (by omega)
    simpa using this
  have step : ∀ j, wordAt bs (8 * i) (8 * j + 8) = wordAt bs (8 * i) (8 * j) * 256 + bs.getD (i + j) 0 := fun j => by
    rw [wordAt_add, show 8 * i + 8 * j = 8 * (i + j) by omega, byte]
  have s0 := byte i
  have s1 := step 1
  have s2 := step 2
  have s3 := step 3
  have s4 := step 4
  have s5 := step 5
  have s6 := step 6
  have s7 := step 7
  simp only [Nat.reduceMul, Nat.reduceAdd] at s1 s2 s3 s4 s5 s6 s7
  rw [s7, s6, s5, s4, s3, s2, s1, s0]

theorem beZ_eight (a0 a1 a2 a3 a4 a5 a6 a7 : Int) (r : List Int) : Lib.beZ ((a0 :: a1 :: a2 :: a3 :: a4 :: a5 :: a6 :: a7 :: r).take 8) = (((((((a0 * 256 + a1) * 256 + a2) * 256 + a3) * 256 + a4) * 256 + a5) * 256 + a6) * 256 + a7) := by
  simp [Lib.beZ, Lib.beFromZ]

/-- BigEndian.Uint64 at bytes that lie in a row -/
theorem be_any (bs : List Nat) (f : Nat → Nat) (g o n c : Nat) (w : World) (hn : 8 ≤ n) (hc : ∀ i, i < 8 → w.cell? ⟨g, o + i, .none⟩ = some (.int .u8 (f i : Nat))) (hb : ∀ i, f i < 256) :
    Calls Yba.prog 15 #[.agg #[], .slice (some ⟨g, o, .none⟩) n c] w fun e w' => e = .returned (.int .u64 ((((((((f 0 * 256 + f 1) * 256 + f 2) * 256 + f 3) * 256 + f 4) * 256 + f 5) * 256 + f 6) * 256 + f 7 : Nat) : Int)) ∧ Below w.heap.size w w' := by
  refine (Yba.binary_BE_Uint64_z ⟨g, o, .none⟩ n c [(f 0 : Int), (f 1 : Int), (f 2 : Int), (f 3 : Int), (f 4 : Int), (f 5 : Int), (f 6 : Int), (f 7 : Int)] w hn (by simp) ?_ ?_).mono ?_
  · intro i hi
    have hi8 : i < 8 := by simpa using hi
    have := hc i hi8
    rw [WideShapes.add_plain, this]
    match i, hi8 with
    | 0, _ => rfl
    | 1, _ => rfl
    | 2, _ => rfl
    | 3, _ => rfl
    | 4, _ => rfl
    | 5, _ => rfl
    | 6, _ => rfl
    | 7, _ => rfl
  · intro z hz
    have : ∃ i, z = (f i : Int) := by
      simp at hz
      rcases hz with h | h | h | h | h | h | h | h <;> exact ⟨_, h⟩
    obtain ⟨i, rfl⟩ := this
    have := hb i
    simp [Lit.wf, IntKind.min, IntKind.max, IntKind.signed, IntKind.bits]
    omega
  · rintro e w' ⟨rfl, hbl⟩
    refine ⟨ret_int ?_, hbl⟩
    rw [beZ_eight]
    omega

/-- the reader lies in block R -/
structure Rd (w : World) (R G : Nat) (bs : List Nat) (at_ : Nat) : Prop where
  r : w.rowIs R 28 2 (fun o => if o = 0 then .slice (some ⟨G, 0, .none⟩) bs.length bs.length else .int .u64 at_)
  g : Bytes w G bs
  ne : G ≠ R

theorem shl_peek (bs : List Nat) (at_ i s V : Nat) (hi : at_ / 8 = i) (hs : at_ % 8 = s) (hV : V = wordAt bs (8 * i) 64) :
    IntKind.u64.wrap ((V : Int) * 2 ^ s) = ((peekAt bs at_ : Nat) : Int) := by
  rw [mul_nat, wrap_mod, ← peekAt_eq bs at_, hi, hs, hV]

set_option maxHeartbeats 800000 in
theorem peek_in (bs : List Nat) (R G at_ : Nat) (w : World) (h : Rd w R G bs at_) (hf : Fits bs) (hat : at_ < 1000000) (hlt : at_ / 8 + 8 ≤ bs.length) :
    Calls Yba.prog 9 #[.pointer (some ⟨R, 0, .none⟩)] w fun e w' => e = .returned (.int .u64 (peekAt bs at_)) ∧ Below w.heap.size w w' := by
  have hl := hf.len
  have r0 : w.cell? ⟨R, 0, .none⟩ = some (.slice (some ⟨G, 0, .none⟩) bs.length bs.length) := h.r.cell (i := 0) (by omega)
  have r1 : w.cell? ⟨R, 1, .none⟩ = some (.int .u64 at_) := h.r.cell (i := 1) (by omega)
  have h7 := and7 at_ (by omega)
  obtain ⟨i, hi⟩ : ∃ i, at_ / 8 = i := ⟨_, rfl⟩
  obtain ⟨s, hs⟩ : ∃ s, at_ % 8 = s := ⟨_, rfl⟩
  rw [hs] at h7
  have hi' : (at_ : Int) / 8 = (i : Int) := by omega
  have hlt' : (i : Int) + 8 ≤ (bs.length : Int) := by omega
  have hile : (i : Int) ≤ (bs.length : Int) := by omega
  have hne : ¬ bs.length = i := by omega
  have hs8 : s < 8 := by omega
  have hRl : R < w.heap.size := h.r.lt
  have hbe := fun (w1 : World) (hb : Below w.heap.size w w1) => be_any bs (fun j => bs.getD (i + j) 0) G i (bs.length - i) (bs.length - i) w1 (by omega)
    (fun j hj => by
      have := hb.cell (p := ⟨G, i + j, .none⟩) h.g.lt
      rw [this]; exact h.g.cell (by omega)) (fun j => hf.byte _)
  have hw := be_word bs i hf.byte
  have Hsh : Hid (∀ V : Nat, V = wordAt bs (8 * i) 64 → IntKind.u64.wrap ((V : Int) * 2 ^ s) = ((peekAt bs at_ : Nat) : Int)) := fun V hV => shl_peek bs at_ i s V hi hs hV
  have Hbe : Hid (∀ (w1 : World), Below w.heap.size w w1 → Calls Yba.prog 15 #[.agg #[], .slice (some ⟨G, i, .none⟩) (bs.length - i) (bs.length - i)] w1 fun e w' => e = .returned (.int .u64 (wordAt bs (8 * i) 64 : Nat)) ∧ Below w1.heap.size w1 w') := by
    intro w1 hb
    refine (hbe w1 hb).mono ?_
    rintro e w' ⟨rfl, hb'⟩
    exact ⟨by rw [hw]; rfl, hb'⟩
  clear hbe hw hi hs hlt h
  go_enter Yba.func9, Yba.ntmps9
  go_wp2
  go_region_with (go_at_call 15; refine (Hbe.out _ (by exact (Below.refl _ _).drew)).mono ?_; rintro e w' ⟨rfl, hb⟩; have r1' : w'.cell? ⟨R, 1, .none⟩ = some (.int .u64 at_) := by rw [hb.cell (p := ⟨R, 1, .none⟩) hRl]; exact r1)
  all_goals go_wp2
  all_goals go_ret
  all_goals exact ⟨ret_int (Hsh.out _ rfl), (show Below w.heap.size w w.drew from (Below.refl _ _).drew).trans hb⟩

end Go.Proofs.Ybulkbdey
