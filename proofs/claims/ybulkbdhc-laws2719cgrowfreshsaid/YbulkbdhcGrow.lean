import Derived.Test.YbulkbdhcPool
import Derived.Conc.SmallLaws
namespace Go.Proofs.Ybulkbdhc
open Go.RowKit Go.Deep
set_option linter.unusedVariables false

theorem mkchan (w : World) : (Instr.makeChan 33 (.int .i64 1)).run Yba.prog w = .ok (.chan (some w.heap.size)) (w.alloc (.chan 1 #[] false 0 0 false)) :=
  Conc.run_makeChan (P := Yba.prog) Yba.underlying33 (i := _) rfl .i64 1 (by decide) (by decide)

theorem pool_at (m C : Nat) (fb : Nat → Nat) (c : Nat) : poolF m C fb (2 + c) = .pointer (if c < C then some ⟨fb c, 0, .none⟩ else .none) := by
  rw [Nat.add_comm]; rfl

variable {w0 wr : World} {A k C : Nat} {fb ab : Nat → Nat} {X : Nat → Nat → Value}

theorem grow_post {w3 : World} {m c s : Nat} (HG : Gs w0 A m (k + 1) C fb ab (fun d => if d = c then (fun o => if o = s * 11 + 8 then .chan (some w3.heap.size) else if o = s * 11 + 10 then .int .u32 k else X c o) else X d)
      ((w3.setCell ⟨ab c, s * 11 + 10, .none⟩ (.int .u32 k)).setCell ⟨ab c, s * 11 + 8, .none⟩ (.chan (some w3.heap.size))))
    (Hz : ∀ f, f < 11 → X c (s * 11 + f) = zeroF f) (HAA : w3.heap[A + 1]? = wr.heap[A + 1]?) (hlo : A + 1 < ab c) (hlt : ab c < w3.heap.size) :
    ∃ q X', Gs w0 A m (k + 1) C fb ab X' (((w3.setCell ⟨ab c, s * 11 + 10, .none⟩ (.int .u32 k)).setCell ⟨ab c, s * 11 + 8, .none⟩ (.chan (some w3.heap.size))).alloc (.chan 1 #[] false 0 0 false)) ∧
      (((w3.setCell ⟨ab c, s * 11 + 10, .none⟩ (.int .u32 k)).setCell ⟨ab c, s * 11 + 8, .none⟩ (.chan (some w3.heap.size))).alloc (.chan 1 #[] false 0 0 false)).heap[q]? = some (.chan 1 #[] false 0 0 false) ∧ X' c (s * 11 + 8) = .chan (some q) ∧ (∀ f, f < 11 → f ≠ 8 → f ≠ 10 → X' c (s * 11 + f) = zeroF f) ∧
      (((w3.setCell ⟨ab c, s * 11 + 10, .none⟩ (.int .u32 k)).setCell ⟨ab c, s * 11 + 8, .none⟩ (.chan (some w3.heap.size))).alloc (.chan 1 #[] false 0 0 false)).heap[A + 1]? = wr.heap[A + 1]? := by
  refine ⟨w3.heap.size, _, HG.alloc _, ?_, ?_, ?_, ?_⟩
  · have := blk_alloc_new ((w3.setCell ⟨ab c, s * 11 + 10, .none⟩ (.int .u32 k)).setCell ⟨ab c, s * 11 + 8, .none⟩ (.chan (some w3.heap.size))) (.chan 1 #[] false 0 0 false)
    simpa using this
  · simp
  · intro f h1 h2 h3
    simp only [if_pos]
    rw [if_neg (by omega), if_neg (by omega)]
    exact Hz f h1
  · rw [Below.heap_alloc _ _ _ (by simp; omega), Below.heap_setCell _ _ _ _ (by simp; omega), Below.heap_setCell _ _ _ _ (by simp; omega)]
    exact HAA

set_option maxHeartbeats 800000 in
theorem grow_old (h : Gs w0 A k k C fb ab X wr) {c s : Nat} (hc : c < C) (hs : s < 16 * 2 ^ c) (hk : baseOf c + s = k) (hlast : k < baseOf C) (hk2 : k < 1100) :
    Calls Yba.prog 7 #[.pointer (some ⟨A, 0, .none⟩)] wr fun e w' => e = .returned (.pointer (some ⟨ab c, s * 11, .none⟩)) ∧
      ∃ q X', Gs w0 A (k + 1) (k + 1) C fb ab X' w' ∧ w'.heap[q]? = some (.chan 1 #[] false 0 0 false) ∧ X' c (s * 11 + 8) = .chan (some q) ∧ (∀ f, f < 11 → f ≠ 8 → f ≠ 10 → X' c (s * 11 + f) = zeroF f) ∧ w'.heap[A + 1]? = wr.heap[A + 1]? := by
  have hc7 := h.cmax
  have hA1 : wr.cell? ⟨A, 1, .none⟩ = some (.int .u32 k) := h.pool.cell (i := 1) (by omega)
  have hf1 := h.pool.frozen 1
  have hmk := mkchan
  go_enter Yba.func7, Yba.ntmps7
  go_wp2_with fail
  refine (add32_any A 1 k wr (by omega) (by omega) hA1 hf1).mono ?_
  rintro e w1 ⟨rfl, hw1⟩
  have h1 : Gs w0 A (k + 1) k C fb ab X w1 := by rw [hw1]; exact h.made (k + 1)
  have hAA : w1.heap[A + 1]? = wr.heap[A + 1]? := by rw [hw1]; exact Below.heap_setCell _ _ _ _ (by simp)
  have HAA : Hid (w1.heap[A + 1]? = wr.heap[A + 1]?) := hAA
  clear hw1 hA1 hf1 h hAA
  go_wp2_with fail
  refine (chunkOf_any k c w1 (by omega) (by omega) (by rw [baseOf_succ]; omega) (by omega)).mono ?_
  rintro e w2 ⟨rfl, n, hw2⟩
  have h2 : Gs w0 A (k + 1) k C fb ab X w2 := by rw [hw2]; exact h1.drewN n
  have HAA2 : Hid (w2.heap[A + 1]? = wr.heap[A + 1]?) := by rw [hw2]; exact HAA.out
  clear hw2 h1 HAA
  rw [show k - baseOf c = s by omega]
  have p2 : w2.cell? ⟨A, 2 + c, .none⟩ = some (.pointer (some ⟨fb c, 0, .none⟩)) := by
    rw [h2.pool.cell (i := 2 + c) (by omega), pool_at, if_pos hc]
  have c29 : (c : Int) < 29 := by omega
  go_wp2_with fail
  refine (loadp_some A (2 + c) (fb c) _ w2 p2 (h2.fr c hc)).mono ?_
  rintro e w3 ⟨rfl, rfl⟩
  have q1 : w3.cell? ⟨fb c, 0, .none⟩ = some (.slice (some ⟨ab c, 0, .none⟩) (16 * 2 ^ c) (16 * 2 ^ c)) := (h2.fr c hc).cell (by omega)
  have a10 : w3.cell? ⟨ab c, s * 11 + 10, .none⟩ = some (.int .u32 0) := by
    rw [(h2.ar c hc).cell (by omega), h2.zero c s 10 hc hs (by omega) (by omega)]; rfl
  have a8 : w3.cell? ⟨ab c, s * 11 + 8, .none⟩ = some (.chan .none) := by
    rw [(h2.ar c hc).cell (by omega), h2.zero c s 8 hc hs (by omega) (by omega)]; rfl
  have f10 := (h2.ar c hc).frozen (s * 11 + 10)
  have f8 := (h2.ar c hc).frozen (s * 11 + 8)
  have hlt := (h2.ar c hc).lt
  have hlo := h2.lo c hc
  have HG := h2.grown hc hs hk hlast (.chan (some w3.heap.size))
  have Hz : Hid (∀ f, f < 11 → X c (s * 11 + f) = zeroF f) := fun f hf => h2.zero c s f hc hs hf (by omega)
  have hN : Hid (∃ N, 16 * 2 ^ c = N) := ⟨_, rfl⟩
  obtain ⟨N, hN⟩ := hN.out
  rw [hN] at q1 hs
  clear p2 hN h2 hk hlast hc
  go_wp2_with fail
  go_ret
  exact ⟨rfl, grow_post HG Hz.out HAA2.out hlo hlt⟩

end Go.Proofs.Ybulkbdhc
namespace Go.Proofs.Ybulkbdhc
open Go.RowKit Go.Deep
set_option linter.unusedVariables false

theorem Yba.info39 : (Yba.prog.info? 39).map (fun i => (i.zero, i.size, i.bytes)) = some (some (.agg #[.pointer .none, .pointer .none, .int .i64 0, .chan .none, .int .u64 0, .int .i64 0, .pointer .none, .bool false, .chan .none, .int .u32 0, .int .u32 0]), 11, 80) := by kernel_rfl

def zeroCells11 : Array Value := #[.pointer .none, .pointer .none, .int .i64 0, .chan .none, .int .u64 0, .int .i64 0, .pointer .none, .bool false, .chan .none, .int .u32 0, .int .u32 0]

theorem mkwaiters (N : Nat) (hN : N ≤ 100000) (w : World) : (Instr.makeSlice 62 (.int .i64 (N : Int)) (.int .i64 (N : Int))).run Yba.prog w = .ok (.slice (some ⟨w.heap.size, 0, .none⟩) N N) (w.alloc (.cells (madeCells zeroCells11 (N * 11)) 39)) := by
  obtain ⟨i, hi, hz, hs, hb⟩ := info_parts Yba.info39
  have hr := run_make (P := Yba.prog) w 62 39 i _ Yba.underlying62 hi hz .i64 .i64 N N (by omega) (Int.le_refl _) (by rw [hb]; omega) (by omega)
  rw [hs, Int.toNat_natCast] at hr
  exact hr

theorem madeZero (N o : Nat) (h : o < N * 11) : (madeCells zeroCells11 (N * 11))[o]? = some (zeroF (o % 11)) := by
  have e : (madeCells zeroCells11 (N * 11))[o]? = some (zeroCells11[o % 11]!) := by
    simp [madeCells, h, zeroCells11]
  rw [e]
  have hm : o % 11 < 11 := Nat.mod_lt _ (by decide)
  generalize o % 11 = q at *
  match q, hm with
  | 0, _ => rfl
  | 1, _ => rfl
  | 2, _ => rfl
  | 3, _ => rfl
  | 4, _ => rfl
  | 5, _ => rfl
  | 6, _ => rfl
  | 7, _ => rfl
  | 8, _ => rfl
  | 9, _ => rfl
  | 10, _ => rfl

variable {w0 wr : World} {A k C : Nat} {fb ab : Nat → Nat} {X : Nat → Nat → Value}

set_option maxHeartbeats 800000 in
theorem grow_new (h : Gs w0 A k k C fb ab X wr) (hC : C < 7) (hk : k = baseOf C) (hk2 : k < 1100) (hAs : A + 1 < wr.heap.size) :
    Calls Yba.prog 7 #[.pointer (some ⟨A, 0, .none⟩)] wr fun e w' => ∃ a f, e = .returned (.pointer (some ⟨a, 0, .none⟩)) ∧
      ∃ q X', Gs w0 A (k + 1) (k + 1) (C + 1) (fun c => if c = C then f else fb c) (fun c => if c = C then a else ab c) X' w' ∧ w'.heap[q]? = some (.chan 1 #[] false 0 0 false) ∧ X' C 8 = .chan (some q) ∧ (∀ f, f < 11 → f ≠ 8 → f ≠ 10 → X' C f = zeroF f) ∧ w'.heap[A + 1]? = wr.heap[A + 1]? := by
  have hp := Nat.two_pow_pos C
  have HK : Hid (k = baseOf C) := hk
  have hk1 : baseOf C ≤ k := by omega
  have hk3 : k ≤ baseOf C := by omega
  clear hk
  have hA1 : wr.cell? ⟨A, 1, .none⟩ = some (.int .u32 k) := h.pool.cell (i := 1) (by omega)
  have hf1 := h.pool.frozen 1
  have hmk := mkchan
  go_enter Yba.func7, Yba.ntmps7
  go_wp2_with fail
  refine (add32_any A 1 k wr (by omega) (by omega) hA1 hf1).mono ?_
  rintro e w1 ⟨rfl, hw1⟩
  have h1 : Gs w0 A (k + 1) k C fb ab X w1 := by rw [hw1]; exact h.made (k + 1)
  have hAA : w1.heap[A + 1]? = wr.heap[A + 1]? := by rw [hw1]; exact Below.heap_setCell _ _ _ _ (by simp)
  have HAA : Hid (w1.heap[A + 1]? = wr.heap[A + 1]?) := hAA
  have hAs1 : A + 1 < w1.heap.size := by rw [hw1]; simp; exact hAs
  clear hw1 hA1 hf1 h hAA hAs
  go_wp2_with fail
  refine (chunkOf_any k C w1 (by omega) (by omega) (by rw [baseOf_succ]; omega) (by omega)).mono ?_
  rintro e w2 ⟨rfl, n, hw2⟩
  have h2 : Gs w0 A (k + 1) k C fb ab X w2 := by rw [hw2]; exact h1.drewN n
  have HAA2 : Hid (w2.heap[A + 1]? = wr.heap[A + 1]?) := by rw [hw2]; exact HAA.out
  have hAs2 : A + 1 < w2.heap.size := by rw [hw2]; exact hAs1
  clear hw2 h1 HAA hAs1
  rw [show k - baseOf C = 0 by omega]
  have p2 : w2.cell? ⟨A, 2 + C, .none⟩ = some (.pointer .none) := by
    rw [h2.pool.cell (i := 2 + C) (by omega), pool_at, if_neg (by omega)]
  have c29 : (C : Int) < 29 := by omega
  go_wp2_with fail
  refine (loadp_nil A (2 + C) w2 p2).mono ?_
  rintro e w3 ⟨rfl, rfl⟩
  obtain ⟨N, hN⟩ : ∃ N, 16 * 2 ^ C = N := ⟨_, rfl⟩
  have hN1024 : N ≤ 1024 := by
    have : 2 ^ C ≤ 2 ^ 6 := Nat.pow_le_pow_right (by decide) (by omega)
    omega
  have mkw := mkwaiters N (by omega)
  have e64 : wrap64 (16 * 2 ^ C) = (N : Int) := by
    have e : (16 : Int) * 2 ^ C = (N : Int) := by rw [← hN, Int.natCast_mul, Int.natCast_pow]; rfl
    rw [e]
    unfold wrap64; omega
  have HZ : Hid (∀ o, o < N * 11 → (madeCells zeroCells11 (N * 11))[o]? = some (zeroF (o % 11))) := fun o ho => madeZero N o ho
  have HZs : Hid ((madeCells zeroCells11 (N * 11)).size = N * 11) := size_madeCells _ _
  generalize madeCells zeroCells11 (N * 11) = Z at mkw HZ HZs
  have HN : Hid (16 * 2 ^ C = N) := hN
  clear hN p2
  go_wp2_with fail
  have ha4 : ((w3.alloc (.cells Z 39)).alloc (.cells #[.slice (some ⟨w3.heap.size, 0, .none⟩) N N] 62)).rowIs w3.heap.size 39 (16 * 2 ^ C * 11) (fun o => zeroF (o % 11)) := by
    refine World.rowIs.alloc ?_ _
    have := World.rowIs_alloc w3 Z 39 (fun o => zeroF (o % 11)) (fun o ho => HZ.out o (by rw [← HZs.out]; exact ho))
    rw [HZs.out, ← HN.out] at this
    exact this
  have hf4 : ((w3.alloc (.cells Z 39)).alloc (.cells #[.slice (some ⟨w3.heap.size, 0, .none⟩) N N] 62)).rowIs (w3.heap.size + 1) 62 1 (fun _ => .slice (some ⟨w3.heap.size, 0, .none⟩) (16 * 2 ^ C) (16 * 2 ^ C)) := by
    have := World.rowIs_alloc (w3.alloc (.cells Z 39)) #[.slice (some ⟨w3.heap.size, 0, .none⟩) N N] 62 (fun _ => .slice (some ⟨w3.heap.size, 0, .none⟩) (16 * 2 ^ C) (16 * 2 ^ C)) (fun o ho => by
      have : o = 0 := by simpa using ho
      subst this
      rw [HN.out]; rfl)
    rw [World.size_alloc] at this
    exact this
  have hg4 := (h2.alloc (.cells Z 39)).alloc (.cells #[.slice (some ⟨w3.heap.size, 0, .none⟩) N N] 62)
  have HAA4 : Hid (((w3.alloc (.cells Z 39)).alloc (.cells #[.slice (some ⟨w3.heap.size, 0, .none⟩) N N] 62)).heap[A + 1]? = wr.heap[A + 1]?) := by
    show _ = _
    rw [Below.heap_alloc _ _ _ (by simp; omega), Below.heap_alloc _ _ _ hAs2]
    exact HAA2.out
  have hnew : ∀ c, c < C → fb c < w3.heap.size := fun c hc => (h2.fr c hc).lt
  have HC := h2.chunk hC HK.out hf4 ha4 hg4 hAs2 (by omega) hnew
  obtain ⟨a, ea⟩ : ∃ a, w3.heap.size = a := ⟨_, rfl⟩
  have Ha : Hid (w3.heap.size = a) := ea
  generalize hw4 : (w3.alloc (.cells Z 39)).alloc (.cells #[.slice (some ⟨w3.heap.size, 0, .none⟩) N N] 62) = w4 at *
  clear hw4 mkw HZ HZs h2 HAA2
  rw [ea] at hf4 ha4 HC hAs2 hnew ⊢
  clear ea
  have p4 : w4.cell? ⟨A, 2 + C, .none⟩ = some (.pointer .none) := by
    rw [hg4.pool.cell (i := 2 + C) (by omega), pool_at, if_neg (by omega)]
  refine (casp_nil A (2 + C) (a + 1) _ w4 p4 (hg4.pool.frozen _) hf4).mono ?_
  rintro e w5 ⟨rfl, hw5⟩
  rw [← hw5] at HC
  have HAA5 : Hid (w5.heap[A + 1]? = wr.heap[A + 1]?) := by
    show _ = _
    rw [hw5, Below.heap_setCell _ _ _ _ (by simp)]; exact HAA4.out
  clear hw5 hf4 ha4 hg4 p4 HAA4
  have hCC : C < C + 1 := by omega
  have h5f := HC.fr C hCC
  have h5a := HC.ar C hCC
  simp only [if_pos] at h5f h5a
  rw [HN.out] at h5f h5a
  have hN16 : 16 ≤ N := by have := HN.out; omega
  have q1 : w5.cell? ⟨a + 1, 0, .none⟩ = some (.slice (some ⟨a, 0, .none⟩) N N) := h5f.cell (by omega)
  have a10 : w5.cell? ⟨a, 10, .none⟩ = some (.int .u32 0) := h5a.cell (i := 10) (by omega)
  have a8 : w5.cell? ⟨a, 8, .none⟩ = some (.chan .none) := h5a.cell (i := 8) (by omega)
  have f10 := h5a.frozen 10
  have f8 := h5a.frozen 8
  have hlt := h5a.lt
  have HG := HC.grown (c := C) (s := 0) hCC (by omega) (by have := HK.out; omega) (by rw [baseOf_succ]; omega) (.chan (some w5.heap.size))
  have post := grow_post (wr := wr) (fb := fun c => if c = C then a + 1 else fb c) (ab := fun c => if c = C then a else ab c) (X := fun c => if c = C then (fun o => zeroF (o % 11)) else X c) (c := C) (s := 0) (w3 := w5) HG (fun f hf => by
      simp only [if_pos]
      rw [Nat.zero_mul, Nat.zero_add, Nat.mod_eq_of_lt hf]) HAA5.out (by simp only [if_pos]; exact hAs2) (by simp only [if_pos]; exact hlt)
  simp only [if_pos, Nat.zero_mul, Nat.zero_add] at post
  have Post := (show Hid _ from post)
  clear HG HC h5f h5a post
  have hN0 : (0 : Int) < (N : Int) := by omega
  go_wp2_with fail
  go_ret
  exact ⟨a, a + 1, rfl, Post.out⟩
end Go.Proofs.Ybulkbdhc
