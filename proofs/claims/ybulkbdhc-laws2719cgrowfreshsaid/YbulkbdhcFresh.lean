import Derived.Test.YbulkbdhcLp
import Derived.Deep.RegionLaw
import Derived.Deep.LoopGhost
import Derived.BigRegion
import Derived.Lib.JoinLaws
import Derived.Lib.Builder
namespace Go.Proofs.Ybulkbdhc
open Go.RowKit Go.Deep
set_option linter.unusedVariables false

theorem Yba.inf25 : (Yba.prog.info? 25).map (fun i => (i.zero, i.size, i.bytes)) = some (some (.pointer .none), 1, 8) := by kernel_rfl

theorem mkptrs (n : Nat) (hn : n ≤ 1024) (w : World) : (Instr.makeSlice 24 (.int .i64 0) (.int .i64 (n : Int))).run Yba.prog w = .ok (.slice (some ⟨w.heap.size, 0, .none⟩) 0 n) (w.alloc (.cells (madeCells #[.pointer .none] n) 25)) := by
  obtain ⟨i, hi, hz, hs, hb⟩ := info_parts Yba.inf25
  have hr := run_make (P := Yba.prog) w 24 25 i _ Yba.underlying24 hi hz .i64 .i64 0 n (by omega) (by omega) (by rw [hb]; omega) (by omega)
  rw [hs, Int.toNat_natCast, Nat.mul_one] at hr
  exact hr

def zero31 : Array Value := #[.int .u64 0, .int .u32 0, .pointer .none, .pointer .none, .pointer .none, .pointer .none, .pointer .none, .pointer .none, .pointer .none, .pointer .none, .pointer .none, .pointer .none, .pointer .none, .pointer .none, .pointer .none, .pointer .none, .pointer .none, .pointer .none, .pointer .none, .pointer .none, .pointer .none, .pointer .none, .pointer .none, .pointer .none, .pointer .none, .pointer .none, .pointer .none, .pointer .none, .pointer .none, .pointer .none, .pointer .none]

theorem zero31_tail : ∀ o, o < 29 → zero31[o + 2]?.map (fun v => match v with | .pointer .none => true | _ => false) = some true := by decide

theorem zero31_at (fb : Nat → Nat) (o : Nat) (h : o < 31) : zero31[o]? = some (poolF 0 0 fb o) := by
  match o, h with
  | 0, _ => rfl
  | 1, _ => rfl
  | o + 2, h =>
    have h1 := zero31_tail o (by omega)
    obtain ⟨v, hv, hv2⟩ := Option.map_eq_some_iff.1 h1
    rw [hv]
    simp only [poolF, Nat.not_lt_zero, if_false]
    split at hv2
    · rfl
    · cases hv2

theorem start (w : World) (n : Nat) : Lp w w.heap.size n 0 0 0 ((w.alloc (.cells zero31 58)).alloc (.cells (madeCells #[.pointer .none] n) 25)) := by
  refine ⟨rfl, by decide, by simp, 0, fun _ => 0, fun _ => 0, fun _ _ => .pointer .none, fun _ => .pointer .none, ⟨Nat.le_refl _, ?_, ?_, ?_, ?_, ?_, ?_, ?_, ?_, ?_, by omega, ?_⟩, rfl, ?_, ?_⟩
  · have := World.rowIs_alloc w zero31 58 (poolF 0 0 fun _ => 0) (fun o ho => zero31_at _ _ ho)
    exact this.alloc _
  · intro c hc; omega
  · intro c hc; omega
  · intro c hc; omega
  · intro c hc; omega
  · intro c hc; omega
  · intro c s f hc; omega
  · intro c s hc; omega
  · simp [baseOf]
  · exact ((Below.refl _ _).alloc (Nat.le_refl _) _).alloc (by simp) _
  · have := World.rowIs_made (w.alloc (.cells zero31 58)) (.pointer .none) n 25
    simpa using this
  · intro d t hd; omega

theorem Lq.facts {w0 wr : World} {A n c s k a f q : Nat} (h : Lq w0 A n c s k a f q wr) :
    wr.cell? ⟨a, s * 11 + 0, .none⟩ = some (.pointer .none) ∧ wr.cell? ⟨a, s * 11 + 1, .none⟩ = some (.pointer .none) ∧ wr.cell? ⟨a, s * 11 + 2, .none⟩ = some (.int .i64 0) ∧ wr.cell? ⟨a, s * 11 + 3, .none⟩ = some (.chan .none) ∧
    wr.cell? ⟨a, s * 11 + 7, .none⟩ = some (.bool false) ∧ wr.cell? ⟨a, s * 11 + 8, .none⟩ = some (.chan (some q)) ∧ wr.cell? ⟨a, s * 11 + 9, .none⟩ = some (.int .u32 0) ∧ wr.cell? ⟨a, s * 11 + 10, .none⟩ = some (.int .u32 k) ∧
    wr.heap[q]? = some (.chan 1 #[] false 0 0 false) ∧ wr.cell? ⟨A, 1, .none⟩ = some (.int .u32 (k + 1 : Nat)) ∧ wr.cell? ⟨A, 2 + c, .none⟩ = some (.pointer (some ⟨f, 0, .none⟩)) ∧ wr.rowIs f 62 1 (fun _ => .slice (some ⟨a, 0, .none⟩) (16 * 2 ^ c) (16 * 2 ^ c)) := by
  obtain ⟨hb, hs, hA, fb, ab, X, g, hG, hrow, hh, rfl, rfl, hq, hx, hz⟩ := h
  have hc := hG.ar c (by omega)
  have z : ∀ f, f < 11 → f ≠ 8 → f ≠ 10 → wr.cell? ⟨ab c, s * 11 + f, .none⟩ = some (zeroF f) := fun f h1 h2 h3 => by
    rw [hc.cell (by omega), hz f h1 h2 h3]
  refine ⟨z 0 (by omega) (by omega) (by omega), z 1 (by omega) (by omega) (by omega), z 2 (by omega) (by omega) (by omega), z 3 (by omega) (by omega) (by omega), z 7 (by omega) (by omega) (by omega), ?_, z 9 (by omega) (by omega) (by omega), ?_, hq, hG.pool.cell (i := 1) (by omega), ?_, hG.fr c (by omega)⟩
  · rw [hc.cell (by omega), hx]
  · rw [hc.cell (by omega), hG.idx c s (by omega) hs (by omega), hb]
  · rw [hG.pool.cell (i := 2 + c) (by have := hG.cmax; omega), pool_at, if_pos (by omega)]

theorem Lq.room {w0 wr : World} {A n c s k a f q : Nat} (h : Lq w0 A n c s k a f q wr) (hk : k < n) :
    ∃ v, wr.cell? ⟨A + 1, k, .none⟩ = some v ∧ wr.frozen? ⟨A + 1, k, .none⟩ = false := by
  obtain ⟨hb, hs, hA, fb, ab, X, g, hG, hrow, hh, rfl, rfl, hq, hx, hz⟩ := h
  exact ⟨_, hrow.cell hk, hrow.frozen k⟩

theorem c_small {w0 wr : World} {A n c s k : Nat} (h : Lp w0 A n c s k wr) (hk : k ≤ 1024) : c ≤ 6 ∧ 16 * 2 ^ c ≤ 1024 := by
  have h1 := c_le c k (by have := h.1; omega) hk
  refine ⟨h1, ?_⟩
  have : 2 ^ c ≤ 2 ^ 6 := Nat.pow_le_pow_right (by decide) h1
  omega

theorem ptr_ne (a : Addr) (w : World) : (binOp .neq 25 (.pointer (some a)) (.pointer (some a))).run Yba.prog w = .ok (.bool false) w :=
  Lib.run_neq_ptr_same w a Yba.underlying25 (j := _) rfl

theorem chan_eq (q : Nat) (w : World) : (binOp .eql 33 (.chan (some q)) (.chan .none)).run Yba.prog w = .ok (.bool false) w := by
  have h : ∀ d : Nat, (Op.equalIn (d + 1) 33 (.chan (some q)) (.chan .none)).run Yba.prog w = .ok false w := fun d => by
    simp [Op.equalIn, run_underlying Yba.underlying33]
  simp only [binOp]
  simp [Op.equal, Op.maxDepth, h 9999]

theorem chan_ne (w : World) : (binOp .neq 26 (.chan .none) (.chan .none)).run Yba.prog w = .ok (.bool false) w := by
  have h : ∀ d : Nat, (Op.equalIn (d + 1) 26 (.chan .none) (.chan .none)).run Yba.prog w = .ok true w := fun d => by
    simp [Op.equalIn, run_underlying Yba.underlying26]
  simp only [binOp]
  simp [Op.equal, Op.maxDepth, h 9999]

set_option maxHeartbeats 4000000 in
set_option maxRecDepth 100000 in
theorem fresh_any (n : Nat) (hn : n ≤ 1024) (w : World) :
    Calls Yba.prog 4 #[.int .u16 (n : Int)] w fun e w' => e = .returned (.bool true) ∧ Below w.heap.size w w' := by
  have mk := mkptrs n hn
  have hst := start w n
  unfold zero31 at hst
  go_enter Yba.func4, Yba.ntmps4
  go_wp2
  clear mk
  go_loopw [4, 5, 6, 7, 8] (fun ws cv ov sv kv wr => ∃ c s k N : Nat, k ≤ n ∧ N = 16 * 2 ^ c ∧ ws = .slice (some ⟨w.heap.size + 1, 0, .none⟩) k n ∧ cv = .int .i64 c ∧ ov = .int .u64 s ∧ sv = .int .u64 N ∧ kv = .int .i64 k ∧ Lp w w.heap.size n c s k wr) (fun _ _ _ _ kv _ => n - (intOf kv).toNat)
  case atStart =>
    exact ⟨0, 0, 0, 16, by omega, by decide, rfl, rfl, rfl, rfl, rfl, hst⟩
  case round =>
    clear hst
    obtain ⟨c, s, k, N, hk, hN, rfl, rfl, rfl, rfl, rfl, hL⟩ := hrel
    by_cases hlt : k < n
    · have hcs := c_small hL (by omega)
      have hsN := hL.2.1
      rw [← hN] at hcs hsN
      have c29 : (c : Int) < 29 := by omega
      generalize hA : w.heap.size = A at *
      go_wp2_with fail
      refine (grow_law hL (by omega)).mono ?_
      rintro e w2 ⟨a, f, q, rfl, hQ⟩
      obtain ⟨c0, c1, c2, c3, c7, c8, c9, c10, hq, p1, pc, hfr⟩ := hQ.facts
      rw [← hN] at hfr
      have cf : w2.cell? ⟨f, 0, .none⟩ = some (.slice (some ⟨a, 0, .none⟩) N N) := hfr.cell (by omega)
      have HN : Hid (N = 16 * 2 ^ c) := hN
      clear hN hL
      rw [Nat.add_zero] at c0
      have hlen := fun ty => Conc.run_len_chan (P := Yba.prog) 33 ty Yba.underlying33 hq
      have hcap := fun ty => Conc.run_cap_chan (P := Yba.prog) 33 ty Yba.underlying33 hq
      have hne := ptr_ne ⟨a, s * 11, .none⟩
      clear hq
      have he := chan_eq q
      have hn2 := chan_ne
      go_wp2_with fail
      refine (load32_any a (s * 11 + 9) 0 w2 c9).mono ?_
      rintro e w3 ⟨rfl, rfl⟩
      go_wp2_with fail
      refine (loadp_some A (2 + c) f _ w3 pc hfr).mono ?_
      rintro e w4 ⟨rfl, rfl⟩
      go_wp2_with fail
      refine (load32_any A 1 _ w4 p1).mono ?_
      rintro e w5 ⟨rfl, rfl⟩
      have hA1 := hQ.2.2.1
      obtain ⟨v, cA, fA⟩ := hQ.room hlt
      have HQ : Hid (Lq w A n c s k a f q w5) := hQ
      clear c0 c1 c2 c3 c7 c8 c9 c10 hne pc p1 hfr hQ he hn2 hlen hcap cf
      have hk1 : k + 1 ≤ n := hlt
      by_cases hs1 : s + 1 = N
      · have hs1' : (s : Int) + 1 = N := by omega
        go_wp2
        go_roundw
        case rel =>
          refine ⟨c + 1, 0, k + 1, N * 2, by omega, by rw [HN.out, Nat.pow_succ]; omega, rfl, by go_num, rfl, by go_num, by go_num, ?_⟩
          have := HQ.out.append hlt hn (.cells #[.pointer (some ⟨a, s * 11, .none⟩)] 25) (c' := c + 1) (s' := 0) (by rw [← HN.out, if_pos hs1]; exact ⟨rfl, rfl⟩)
          first | exact this | (rw [hA]; exact this)
        case measure => simp [intOf]; omega
      · have hs1' : ¬ (s : Int) + 1 = N := by omega
        go_wp2
        go_roundw
        case rel =>
          refine ⟨c, s + 1, k + 1, N, by omega, HN.out, rfl, rfl, by go_num, rfl, by go_num, ?_⟩
          have := HQ.out.append hlt hn (.cells #[.pointer (some ⟨a, s * 11, .none⟩)] 25) (c' := c) (s' := s + 1) (by rw [← HN.out, if_neg hs1]; exact ⟨rfl, rfl⟩)
          first | exact this | (rw [hA]; exact this)
        case measure => simp [intOf]; omega
    · have hkn : k = n := by omega
      subst hkn
      have hcs := c_small hL (by omega)
      have hE := hL.toLe
      clear hL hN hlt
      generalize hA : w.heap.size = A at *
      by_cases hs0 : s = 0
      · subst hs0
        rw [if_pos rfl] at hE
        rw [show ((0 : Nat) : Int) = 0 from rfl]
        go_wp2
        go_loopw [12] (fun jv wx => ∃ j : Nat, c ≤ j ∧ j ≤ 29 ∧ jv = .int .i64 j ∧ Le w A k (c) wx) (fun jv _ => 29 - (intOf jv).toNat)
        case atStart => exact ⟨c, by omega, by omega, by go_num, hE⟩
        case round =>
          clear hE
          obtain ⟨j, hj1, hj2, rfl, hE⟩ := hrel
          by_cases hlt2 : j < 29
          · have pj := hE.nil hj1 hlt2
            have hlt2' : (j : Int) < 29 := by omega
            go_wp2_with fail
            refine (loadp_nil A (2 + j) _ pj).mono ?_
            rintro e w2 ⟨rfl, rfl⟩
            clear pj
            go_wp2
            go_roundw
            case rel => exact ⟨j + 1, by omega, by omega, by go_num, hE⟩
            case measure => simp [intOf]; omega
          · clear hj1
            go_wp2
            go_loopw [13] (fun jv wx => ∃ j : Nat, j ≤ k ∧ jv = .int .i64 j ∧ Le w A k (c) wx) (fun jv _ => k - (intOf jv).toNat)
            case atStart => exact ⟨0, by omega, rfl, hE⟩
            case round =>
              clear hE
              obtain ⟨j, hj1, rfl, hE⟩ := hrel
              by_cases hlt3 : j < k
              · obtain ⟨a, s2, q1, q2, hcall⟩ := hE.place hlt3 hn
                have hne := ptr_ne ⟨a, s2 * 11, .none⟩
                have hlt3' : (j : Int) < k := by omega
                have HC : Hid (∀ i, Calls Yba.prog 10 #[.pointer (some ⟨A, 0, .none⟩), .int .u32 j] (wr.drewN i) fun e w' => e = .returned (.pointer (some ⟨a, s2 * 11, .none⟩)) ∧ ∃ i', w' = (wr.drewN i).drewN i') := hcall
                clear hcall
                go_wp2_with fail
                go_quiet ((go_at_call 10; exact Calls.quiet_of (HC.out _)))
                clear q1 q2 hne HC
                go_wp2
                go_roundw
                case rel => exact ⟨j + 1, by omega, by go_num, hE.drewN _⟩
                case measure => simp [intOf]; omega
              · obtain ⟨t0, t1, hB⟩ := hE.top
                have HB : Hid (Below w.heap.size w wr) := hB
                clear hB hE
                go_wp2_with fail
                refine (load64_any A 0 _ _ t0).mono ?_
                rintro e w2 ⟨rfl, rfl⟩
                go_wp2_with fail
                refine (load32_any A 1 _ _ t1).mono ?_
                rintro e w3 ⟨rfl, rfl⟩
                go_wp2
                go_ret
                exact ⟨rfl, HB.out⟩
      · rw [if_neg hs0] at hE
        have hs0' : ¬ (s : Int) = 0 := by omega
        go_wp2
        clear hs0 hs0'
        generalize ((s : Int) == 0) = bb
        go_loopw [12] (fun jv wx => ∃ j : Nat, c + 1 ≤ j ∧ j ≤ 29 ∧ jv = .int .i64 j ∧ Le w A k (c + 1) wx) (fun jv _ => 29 - (intOf jv).toNat)
        case atStart => exact ⟨c + 1, by omega, by omega, by go_num, hE⟩
        case round =>
          clear hE
          obtain ⟨j, hj1, hj2, rfl, hE⟩ := hrel
          by_cases hlt2 : j < 29
          · have pj := hE.nil hj1 hlt2
            have hlt2' : (j : Int) < 29 := by omega
            go_wp2_with fail
            refine (loadp_nil A (2 + j) _ pj).mono ?_
            rintro e w2 ⟨rfl, rfl⟩
            clear pj
            go_wp2
            go_roundw
            case rel => exact ⟨j + 1, by omega, by omega, by go_num, hE⟩
            case measure => simp [intOf]; omega
          · clear hj1
            go_wp2
            go_loopw [13] (fun jv wx => ∃ j : Nat, j ≤ k ∧ jv = .int .i64 j ∧ Le w A k (c + 1) wx) (fun jv _ => k - (intOf jv).toNat)
            case atStart => exact ⟨0, by omega, rfl, hE⟩
            case round =>
              clear hE
              obtain ⟨j, hj1, rfl, hE⟩ := hrel
              by_cases hlt3 : j < k
              · obtain ⟨a, s2, q1, q2, hcall⟩ := hE.place hlt3 hn
                have hne := ptr_ne ⟨a, s2 * 11, .none⟩
                have hlt3' : (j : Int) < k := by omega
                have HC : Hid (∀ i, Calls Yba.prog 10 #[.pointer (some ⟨A, 0, .none⟩), .int .u32 j] (wr.drewN i) fun e w' => e = .returned (.pointer (some ⟨a, s2 * 11, .none⟩)) ∧ ∃ i', w' = (wr.drewN i).drewN i') := hcall
                clear hcall
                go_wp2_with fail
                go_quiet ((go_at_call 10; exact Calls.quiet_of (HC.out _)))
                clear q1 q2 hne HC
                go_wp2
                go_roundw
                case rel => exact ⟨j + 1, by omega, by go_num, hE.drewN _⟩
                case measure => simp [intOf]; omega
              · obtain ⟨t0, t1, hB⟩ := hE.top
                have HB : Hid (Below w.heap.size w wr) := hB
                clear hB hE
                go_wp2_with fail
                refine (load64_any A 0 _ _ t0).mono ?_
                rintro e w2 ⟨rfl, rfl⟩
                go_wp2_with fail
                refine (load32_any A 1 _ _ t1).mono ?_
                rintro e w3 ⟨rfl, rfl⟩
                go_wp2
                go_ret
                exact ⟨rfl, HB.out⟩

set_option maxRecDepth 100000 in
theorem fresh_far (n : Nat) (hn : 1024 < n) (w : World) :
    Calls Yba.prog 4 #[.int .u16 (n : Int)] w fun e w' => e = .returned (.bool true) ∧ Below w.heap.size w w' := by
  have hn' : (1024 : Int) < n := by omega
  go_enter Yba.func4, Yba.ntmps4
  go_wp2
  go_ret
  exact ⟨rfl, Below.refl _ _⟩

end Go.Proofs.Ybulkbdhc
