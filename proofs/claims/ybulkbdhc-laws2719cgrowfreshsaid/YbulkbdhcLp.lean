import Derived.Test.YbulkbdhcGrow
import Derived.Conc.LoneSelectN
namespace Go.Proofs.Ybulkbdhc
open Go.RowKit Go.Deep
set_option linter.unusedVariables false

theorem baseOf_le (d e : Nat) : baseOf d ≤ baseOf (d + e) := by
  induction e with
  | zero => exact Nat.le_refl _
  | succ e ih => rw [← Nat.add_assoc, baseOf_succ]; omega

theorem baseOf_mono {d e : Nat} (h : d ≤ e) : baseOf d ≤ baseOf e := by
  have := baseOf_le d (e - d)
  rwa [show d + (e - d) = e by omega] at this

theorem chunk_of (k : Nat) : ∀ C, k < baseOf C → ∃ c, c < C ∧ baseOf c ≤ k ∧ k < baseOf (c + 1)
  | 0, h => by simp [baseOf] at h
  | C + 1, h => by
    by_cases h1 : k < baseOf C
    · obtain ⟨c, h2, h3, h4⟩ := chunk_of k C h1
      exact ⟨c, by omega, h3, h4⟩
    · exact ⟨C, by omega, by omega, h⟩

/-- the rows of the handed-out waiters -/
def Handed (k C : Nat) (ab : Nat → Nat) (g : Nat → Value) : Prop :=
  ∀ d t, d < C → t < 16 * 2 ^ d → baseOf d + t < k → g (baseOf d + t) = .pointer (some ⟨ab d, t * 11, .none⟩)

/-- ahead of round k: chunk c, place s -/
def Lp (w0 : World) (A n c s k : Nat) (wr : World) : Prop :=
  baseOf c + s = k ∧ s < 16 * 2 ^ c ∧ A + 1 < wr.heap.size ∧ ∃ C fb ab X g, Gs w0 A k k C fb ab X wr ∧ C = (if s = 0 then c else c + 1) ∧ wr.rowIs (A + 1) 25 n g ∧ Handed k C ab g

/-- behind grow, ahead of the append -/
def Lq (w0 : World) (A n c s k a f q : Nat) (wr : World) : Prop :=
  baseOf c + s = k ∧ s < 16 * 2 ^ c ∧ A + 1 < wr.heap.size ∧ ∃ fb ab X g, Gs w0 A (k + 1) (k + 1) (c + 1) fb ab X wr ∧ wr.rowIs (A + 1) 25 n g ∧ Handed k (c + 1) ab g ∧ ab c = a ∧ fb c = f ∧
    wr.heap[q]? = some (.chan 1 #[] false 0 0 false) ∧ X c (s * 11 + 8) = .chan (some q) ∧ (∀ f, f < 11 → f ≠ 8 → f ≠ 10 → X c (s * 11 + f) = zeroF f)

theorem c_le (c k : Nat) (h : baseOf c ≤ k) (hk : k ≤ 1024) : c ≤ 6 := by
  by_cases hc : c ≤ 6
  · exact hc
  · have := baseOf_mono (d := 7) (e := c) (by omega)
    have h7 : baseOf 7 = 2032 := rfl
    omega

theorem grow_law {w0 wr : World} {A n c s k : Nat} (h : Lp w0 A n c s k wr) (hk : k < 1024) :
    Calls Yba.prog 7 #[.pointer (some ⟨A, 0, .none⟩)] wr fun e w' => ∃ a f q, e = .returned (.pointer (some ⟨a, s * 11, .none⟩)) ∧ Lq w0 A n c s k a f q w' := by
  obtain ⟨hb, hs, hA, C, fb, ab, X, g, hG, hC, hrow, hh⟩ := h
  have hc6 := c_le c k (by omega) (by omega)
  by_cases e0 : s = 0
  · subst e0
    rw [if_pos rfl] at hC
    subst hC
    refine (grow_new hG (by omega) (by omega) (by omega) hA).mono ?_
    rintro e w' ⟨a, f, rfl, q, X', hG', hq, hx, hz, hAA⟩
    refine ⟨a, f, q, by simp, hb, hs, ?_, _, _, X', g, hG', hrow.of_block hAA, ?_, by simp, by simp, hq, by simpa using hx, fun f h1 h2 h3 => by simpa using hz f h1 h2 h3⟩
    · exact (hrow.of_block hAA).lt
    · intro d t hd ht hk
      have hdc : d < C := by
        by_cases e : d = C
        · subst e; omega
        · omega
      simp only [if_neg (Nat.ne_of_lt hdc)]
      exact hh d t hdc ht hk
  · rw [if_neg e0] at hC
    subst hC
    refine (grow_old hG (by omega : c < c + 1) hs hb (by rw [baseOf_succ]; omega) (by omega)).mono ?_
    rintro e w' ⟨rfl, q, X', hG', hq, hx, hz, hAA⟩
    exact ⟨ab c, fb c, q, rfl, hb, hs, (hrow.of_block hAA).lt, fb, ab, X', g, hG', hrow.of_block hAA, hh, rfl, rfl, hq, hx, hz⟩

/-- the append -/
theorem Lq.append {w0 wr : World} {A n c s k a f q c' s' : Nat} (h : Lq w0 A n c s k a f q wr) (hk : k < n) (hn : n ≤ 1024) (o : Obj)
    (hcs : if s + 1 = 16 * 2 ^ c then c' = c + 1 ∧ s' = 0 else c' = c ∧ s' = s + 1) :
    Lp w0 A n c' s' (k + 1) ((wr.setCell ⟨A + 1, k, .none⟩ (.pointer (some ⟨a, s * 11, .none⟩))).alloc o) := by
  obtain ⟨hb, hs, hA, fb, ab, X, g, hG, hrow, hh, rfl, rfl, hq, hx, hz⟩ := h
  have hsb := baseOf_succ c
  have hp := Nat.two_pow_pos c
  have hp' := Nat.two_pow_pos c'
  refine ⟨?_, ?_, by simp; omega, c + 1, fb, ab, X, _, (hG.other _ (by have := hG.base; omega) (by omega) ?_).alloc o, ?_, (hrow.set k _).alloc o, ?_⟩
  · split at hcs
    · obtain ⟨rfl, rfl⟩ := hcs; omega
    · obtain ⟨rfl, rfl⟩ := hcs; omega
  · split at hcs
    · obtain ⟨rfl, rfl⟩ := hcs; omega
    · obtain ⟨rfl, rfl⟩ := hcs; omega
  · intro d hd
    have h1 := hG.lo d hd
    have h2 := hG.mid d hd
    omega
  · split at hcs
    · obtain ⟨rfl, rfl⟩ := hcs; rfl
    · obtain ⟨rfl, rfl⟩ := hcs; rw [if_neg (by omega)]
  · intro d t hd ht hkt
    by_cases e : baseOf d + t = k
    · have hdc : d = c := by
        by_cases e1 : d = c
        · exact e1
        · exfalso
          have h1 := baseOf_succ d
          have h2 := baseOf_mono (d := d + 1) (e := c) (by omega)
          omega
      subst hdc
      have hts : t = s := by omega
      subst hts
      simp only [if_pos e]
    · simp only [if_neg e]
      exact hh d t hd ht (by omega)

/-- all handed out -/
def Le (w0 : World) (A n C : Nat) (wr : World) : Prop :=
  ∃ fb ab X g, Gs w0 A n n C fb ab X wr ∧ wr.rowIs (A + 1) 25 n g ∧ Handed n C ab g

theorem Le.drewN {w0 wr : World} {A n C : Nat} (h : Le w0 A n C wr) (j : Nat) : Le w0 A n C (wr.drewN j) := by
  obtain ⟨fb, ab, X, g, h1, h2, h3⟩ := h
  refine ⟨fb, ab, X, g, h1.drewN j, ?_, h3⟩
  induction j with
  | zero => exact h2
  | succ j ih => exact ih.drew

theorem Lp.toLe {w0 wr : World} {A n c s : Nat} (h : Lp w0 A n c s n wr) : Le w0 A n (if s = 0 then c else c + 1) wr := by
  obtain ⟨hb, hs, hA, C, fb, ab, X, g, hG, hC, hrow, hh⟩ := h
  rw [← hC]
  exact ⟨fb, ab, X, g, hG, hrow, hh⟩

theorem Le.nil {w0 wr : World} {A n C j : Nat} (h : Le w0 A n C wr) (hj : C ≤ j) (hj2 : j < 29) : wr.cell? ⟨A, 2 + j, .none⟩ = some (.pointer .none) := by
  obtain ⟨fb, ab, X, g, h1, h2, h3⟩ := h
  rw [h1.pool.cell (i := 2 + j) (by omega), pool_at, if_neg (by omega)]

theorem Le.top {w0 wr : World} {A n C : Nat} (h : Le w0 A n C wr) : wr.cell? ⟨A, 0, .none⟩ = some (.int .u64 0) ∧ wr.cell? ⟨A, 1, .none⟩ = some (.int .u32 n) ∧ Below w0.heap.size w0 wr := by
  obtain ⟨fb, ab, X, g, h1, h2, h3⟩ := h
  exact ⟨h1.pool.cell (i := 0) (by omega), h1.pool.cell (i := 1) (by omega), h1.below⟩

theorem Le.drew {w0 wr : World} {A n C : Nat} (h : Le w0 A n C wr) : Le w0 A n C wr.drew := h.drewN 1

set_option maxHeartbeats 400000 in
/-- what 'at' hands out -/
theorem at_law {w0 wr : World} {A m n C : Nat} {fb ab : Nat → Nat} {X : Nat → Nat → Value} (h : Gs w0 A m n C fb ab X wr) {c s : Nat} (hc : c < C) (hs : s < 16 * 2 ^ c) (hk2 : baseOf c + s < 1100) :
    Calls Yba.prog 10 #[.pointer (some ⟨A, 0, .none⟩), .int .u32 (baseOf c + s : Nat)] wr fun e w' => e = .returned (.pointer (some ⟨ab c, s * 11, .none⟩)) ∧ ∃ j, w' = wr.drewN j := by
  have hc7 := h.cmax
  go_enter Yba.func10, Yba.ntmps10
  go_wp2_with fail
  refine (chunkOf_any (baseOf c + s) c wr (by omega) (by omega) (by rw [baseOf_succ]; omega) (by omega)).mono ?_
  rintro e w2 ⟨rfl, j, hw2⟩
  have h2 : Gs w0 A m n C fb ab X w2 := by rw [hw2]; exact h.drewN j
  have HW : Hid (w2 = wr.drewN j) := hw2
  clear hw2 h
  rw [show baseOf c + s - baseOf c = s by omega]
  have p2 : w2.cell? ⟨A, 2 + c, .none⟩ = some (.pointer (some ⟨fb c, 0, .none⟩)) := by
    rw [h2.pool.cell (i := 2 + c) (by omega), pool_at, if_pos hc]
  have c29 : (c : Int) < 29 := by omega
  have hN : Hid (∃ N, 16 * 2 ^ c = N) := ⟨_, rfl⟩
  have q1 : w2.cell? ⟨fb c, 0, .none⟩ = some (.slice (some ⟨ab c, 0, .none⟩) (16 * 2 ^ c) (16 * 2 ^ c)) := (h2.fr c hc).cell (by omega)
  have hfr := h2.fr c hc
  obtain ⟨N, hN⟩ := hN.out
  rw [hN] at q1 hs hfr
  clear hN h2 hk2 hc
  go_wp2_with fail
  refine (loadp_some A (2 + c) (fb c) _ w2 p2 hfr).mono ?_
  rintro e w3 ⟨rfl, rfl⟩
  clear p2 hfr
  go_wp2_with fail
  go_ret
  exact ⟨rfl, j, HW.out⟩

/-- the one place of waiter j -/
theorem Le.place {w0 wr : World} {A n C j : Nat} (h : Le w0 A n C wr) (hj : j < n) (hn : n ≤ 1024) :
    ∃ a s, wr.cell? ⟨A + 1, j, .none⟩ = some (.pointer (some ⟨a, s * 11, .none⟩)) ∧ wr.cell? ⟨a, s * 11 + 10, .none⟩ = some (.int .u32 j) ∧
      ∀ i, Calls Yba.prog 10 #[.pointer (some ⟨A, 0, .none⟩), .int .u32 j] (wr.drewN i) fun e w' => e = .returned (.pointer (some ⟨a, s * 11, .none⟩)) ∧ ∃ i', w' = (wr.drewN i).drewN i' := by
  obtain ⟨fb, ab, X, g, h1, h2, h3⟩ := h
  obtain ⟨c, hc, hc1, hc2⟩ := chunk_of j C (by have := h1.cover; omega)
  have hsb := baseOf_succ c
  refine ⟨ab c, j - baseOf c, ?_, ?_, fun i => ?_⟩
  · rw [h2.cell hj]
    have := h3 c (j - baseOf c) hc (by omega) (by omega)
    rw [show baseOf c + (j - baseOf c) = j by omega] at this
    rw [this]
  · have hac := h1.ar c hc
    have hs : j - baseOf c < 16 * 2 ^ c := by omega
    have e := h1.idx c (j - baseOf c) hc hs (by omega)
    rw [hac.cell (by omega), e]
    congr 2
    omega
  · have := at_law (h1.drewN i) hc (s := j - baseOf c) (by omega) (by omega)
    rw [show baseOf c + (j - baseOf c) = j by omega] at this
    exact this

end Go.Proofs.Ybulkbdhc
