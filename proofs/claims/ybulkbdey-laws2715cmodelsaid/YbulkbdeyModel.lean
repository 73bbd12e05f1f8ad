import Derived.Test.YbulkbdeyRead
import Derived.Test.YbulkbdeyCode
namespace Go.Proofs.Ybulkbdey
open Go.RowKit Go.Deep
set_option linter.unusedVariables false

theorem Yba.info24 : (Yba.prog.info? 24).map (fun i => (i.zero, i.size, i.bytes)) = some (some (.int .u64 0), 1, 8) := by kernel_rfl

/-- the model's state: the bytes in G, the place in T, the results in U -/
structure Md (w : World) (G T U : Nat) (bs : List Nat) (p n : Nat) (at_ m : Nat) (wr : World) : Prop where
  t : wr.rowIs T 26 1 (fun _ => .int .u64 at_)
  u : wr.rowIs U 24 n (fun i => .int .u64 (if i < m then resAt bs p n i else 0 : Nat))
  below : Below w.heap.size w wr

theorem Md.bytes {w wr : World} {G T U p n at_ m : Nat} {bs : List Nat} (h : Md w G T U bs p n at_ m wr) (hG : Bytes w G bs) : Bytes wr G bs :=
  hG.of_block (h.below.block G hG.lt)

theorem Upd.size_eq {T : Nat} {a : World} {v : Value} (o : Nat) : Upd (· = T) a (a.setCell ⟨T, o, .none⟩ v) := Upd.setCell (S := (· = T)) (p := ⟨T, o, .none⟩) (Upd.refl _ _) rfl v

/-- only T has turned: the place is another -/
theorem Md.move {w wr w2 : World} {G U p n at_ m at' : Nat} {bs : List Nat} (h : Md w G w.heap.size U bs p n at_ m wr) (hu : Upd (· = w.heap.size) wr w2)
    (ht : w2.rowIs w.heap.size 26 1 (fun _ => .int .u64 at')) (hTU : U ≠ w.heap.size) : Md w G w.heap.size U bs p n at' m w2 :=
  ⟨ht, hu.row h.u hTU, h.below.trans (hu.below (fun k hk => by omega) h.below.size)⟩

/-- the next result is laid -/
theorem Md.put {w wr : World} {G U p n at_ m : Nat} {bs : List Nat} (h : Md w G w.heap.size U bs p n at_ m wr) (hTU : w.heap.size < U) :
    Md w G w.heap.size U bs p n at_ (m + 1) (wr.setCell ⟨U, m, .none⟩ (.int .u64 (resAt bs p n m))) :=
  ⟨h.t.setOther (by simp; omega) _, (h.u.set m _).congr fun i hi => by
    by_cases e : i = m
    · subst e; rw [if_pos rfl, if_pos (by omega)]
    · rw [if_neg e]
      by_cases e2 : i < m
      · rw [if_pos e2, if_pos (by omega)]
      · rw [if_neg e2, if_neg (by omega)], h.below.setCell (by simp; omega) _⟩

/-- a group of zeros -/
theorem Md.zeros {w wr : World} {G T U p n at_ m c : Nat} {bs : List Nat} (h : Md w G T U bs p n at_ m wr) (hz : ∀ i, m ≤ i → i < m + c → resAt bs p n i = 0) : Md w G T U bs p n at_ (m + c) wr :=
  ⟨h.t, h.u.congr fun i hi => by
    by_cases e : i < m
    · rw [if_pos e, if_pos (by omega)]
    · rw [if_neg e]
      by_cases e2 : i < m + c
      · rw [if_pos e2, hz i (by omega) e2]
      · rw [if_neg e2], h.below⟩

theorem Md.at {w wr : World} {G U p n at_ m : Nat} {bs : List Nat} (h : Md w G w.heap.size U bs p n at_ m wr) (hTU : U ≠ w.heap.size) (q : Nat) :
    Md w G w.heap.size U bs p n q m (wr.setCell ⟨w.heap.size, 0, .none⟩ (.int .u64 q)) :=
  h.move (Upd.size_eq 0) ((h.t.set 0 _).congr fun i hi => by rw [if_pos (by omega)]) hTU

theorem or_code (q k lo : Nat) (hlo : lo < 18446744073709551616) : bits .or .u64 (IntKind.u64.wrap ((q : Int) * 2 ^ k)) (lo : Int) = (((q * 2 ^ k % 18446744073709551616) ||| lo : Nat) : Int) := by
  rw [mul_nat, wrap_mod, or_nat _ _ (Nat.mod_lt _ (by decide)) hlo]

theorem or_wide (v lo : Nat) (hv : v < 64) (hlo : lo < 18446744073709551616) : bits .or .u64 (IntKind.u64.wrap (2 ^ v)) (lo : Int) = ((2 ^ v ||| lo : Nat) : Int) := by
  have e : (2 : Int) ^ v = ((2 ^ v : Nat) : Int) := by rw [Int.natCast_pow]; rfl
  have hlt : 2 ^ v < 18446744073709551616 := Nat.lt_of_lt_of_le (Nat.pow_lt_pow_right (by decide) hv) (by decide)
  rw [e, wrap_nat _ hlt, or_nat _ _ hlt hlo]

set_option maxHeartbeats 3200000 in
theorem model_any (bs : List Nat) (G p n : Nat) (w : World) (hG : Bytes w G bs) (hf : Fits bs) (hp : p < 65536) (hn : n ≤ 512) :
    Calls Yba.prog 6 #[.slice (some ⟨G, 0, .none⟩) bs.length bs.length, .int .u64 p, .int .i64 n] w fun e w' =>
      e = .returned (.tuple #[.slice (some ⟨w.heap.size + 1, 0, .none⟩) n n, .int .u64 (grpAt bs p n ((n + 31) / 32))]) ∧
      Below w.heap.size w w' ∧ w'.rowIs (w.heap.size + 1) 24 n (fun i => .int .u64 (resAt bs p n i)) := by
  have mk := fun wx => run_make_row' (P := Yba.prog) 25 24 _ _ Yba.underlying25 Yba.info24 rfl .i64 .i64 n (by omega) (by omega) wx
  have hGl : G < w.heap.size := hG.lt
  go_enter Yba.func6, Yba.ntmps6
  go_wp2
  go_loopw [9] (fun gv wr => ∃ gi : Nat, gi ≤ (n + 31) / 32 ∧ gv = .int .i64 (32 * gi : Nat) ∧ Md w G w.heap.size (w.heap.size + 1) bs p n (grpAt bs p n gi) (32 * gi) wr) (fun gv _ => n + 32 - (intOf gv).toNat)
  case atStart =>
    refine ⟨0, by omega, rfl, ?_, ?_, ?_⟩
    · refine (World.rowIs_alloc w #[.int .u64 p] 26 (fun _ => .int .u64 p) (fun o ho => ?_)).alloc _
      have : o = 0 := by simpa using ho
      subst this; rfl
    · have := World.rowIs_made (w.alloc (.cells #[.int .u64 (p : Int)] 26)) (.int .u64 0) n 24
      rw [World.size_alloc] at this
      exact this.congr fun i hi => by simp
    · exact ((Below.refl _ _).alloc (Nat.le_refl _) _).alloc (by simp) _
  case round =>
    clear mk
    obtain ⟨gi, hgi, rfl, hM⟩ := hrel
    by_cases hlt : 32 * gi < n
    · have hale := grpAt_le bs p n gi
      have hgi16 : gi < 16 := by omega
      have HG1 : Hid (grpAt bs p n (gi + 1) = if wordAt bs (grpAt bs p n gi) 6 = 63 then grpAt bs p n gi + 6 else posAt bs (wordAt bs (grpAt bs p n gi) 6) (grpAt bs p n gi + 6) (cntAt n gi)) := rfl
      have HR : Hid (∀ j, j < 32 → resAt bs p n (32 * gi + j) = if wordAt bs (grpAt bs p n gi) 6 = 63 then 0 else valAt bs (wordAt bs (grpAt bs p n gi) 6) (grpAt bs p n gi + 6) j) := fun j hj => resAt_group bs p n gi j hj
      have HC : Hid (cntAt n gi = min (n - 32 * gi) 32) := rfl
      obtain ⟨B, hB⟩ : ∃ B, 32 * gi = B := ⟨_, rfl⟩
      have HB : Hid (32 * gi = B) := hB
      rw [hB] at hM hlt HC HR ⊢
      clear hB
      generalize grpAt bs p n gi = a at *
      have hab : a < 200000 := by omega
      have hBn : B < 512 := by omega
      have hlt' : (B : Int) < (n : Int) := by omega
      have hk := wordAt_lt bs a 6
      generalize hkk : wordAt bs a 6 = k at *
      have Hk : Hid (wordAt bs a 6 = k) := hkk
      clear hkk
      have he0 : n < B + 32 ∨ ¬ n < B + 32 := by omega
      rcases he0 with he | he
      all_goals
        first | have he' : (n : Int) < (B : Int) + 32 := by omega | have he' : ¬ (n : Int) < (B : Int) + 32 := by omega
        go_wp2_with fail
        refine (cread_any bs G w.heap.size a 6 wr (hM.bytes hG) hf hM.t (by omega) (by omega) (by omega)).mono ?_
        rintro e w1 ⟨rfl, hT1, hU1⟩
        have hM1 := hM.move hU1 hT1 (by omega)
        clear hM hT1 hU1
        rw [Hk.out]
        by_cases hk63 : k = 63
        · have hk' : ((k : Int) == 63) = true := by simp; omega
          go_wp2_with fail
          go_roundw
          case rel =>
            have hB := HB.out
            refine ⟨gi + 1, by omega, by go_num, ?_⟩
            rw [HG1.out, if_pos hk63, show 32 * (gi + 1) = B + 32 by omega]
            refine hM1.zeros (c := 32) fun i h1 h2 => ?_
            have := HR.out (i - B) (by omega)
            rw [show B + (i - B) = i by omega, if_pos hk63] at this
            exact this
          case measure => simp [intOf]; omega
        · have hk' : ((k : Int) == 63) = false := by simp; omega
          go_wp2_with fail
          go_loopw [12] (fun iv wr => ∃ j : Nat, j ≤ cntAt n gi ∧ iv = .int .i64 (B + j : Nat) ∧ Md w G w.heap.size (w.heap.size + 1) bs p n (posAt bs k (a + 6) j) (B + j) wr) (fun iv _ => B + 32 - (intOf iv).toNat)
          case atStart => exact ⟨0, Nat.zero_le _, rfl, hM1⟩
          case round =>
            clear hM1
            obtain ⟨j, hj, rfl, hM⟩ := hrel
            have hC := HC.out
            by_cases hjc : j < cntAt n gi
            · have hj32 : j < 32 := by omega
              have hjn : B + j < n := by omega
              have hRj := HR.out j hj32
              rw [if_neg hk63] at hRj
              have Hval : Hid (resAt bs p n (B + j) = (codeAt bs k (posAt bs k (a + 6) j)).1) := hRj
              have Hpos : Hid (posAt bs k (a + 6) (j + 1) = (codeAt bs k (posAt bs k (a + 6) j)).2) := rfl
              have hPle := posAt_le bs k (a + 6) (by omega) j
              have Hjc : Hid (j < cntAt n gi) := hjc
              clear hRj hC hjc hj
              generalize posAt bs k (a + 6) j = P at *
              have hP : P < 300000 := by omega
              clear hPle
              generalize hI : B + j = I at *
              have HI : Hid (B + j = I) := hI
              have hI1 : (I : Int) < (n : Int) := by omega
              have hI2 : (I : Int) < (B : Int) + 32 := by omega
              clear hI
              obtain ⟨hz24, hz0, hz1⟩ := zerosAt_spec bs P
              have HZ : Hid (∀ q, q < zerosAt bs P → bitAt bs (P + q) = 0) := fun q hq => zerosAt_bit bs P q hq
              have HZ1 : Hid (zerosAt bs P < 24 → bitAt bs (P + zerosAt bs P) = 1) := hz1
              have Hcode : Hid (codeAt bs k P = if zerosAt bs P = 24 then (2 ^ wordAt bs (P + 24) 6 ||| wordAt bs (P + 30) (wordAt bs (P + 24) 6), P + 30 + wordAt bs (P + 24) 6) else ((zerosAt bs P * 2 ^ k % 18446744073709551616) ||| wordAt bs (P + (zerosAt bs P + 1)) k, P + (zerosAt bs P + 1) + k)) := rfl
              clear hz0 hz1
              generalize zerosAt bs P = z at *
              have t0 : wr.cell? ⟨w.heap.size, 0, .none⟩ = some (.int .u64 P) := hM.t.cell (by omega)
              have hGr := hM.bytes hG
              go_wp2_with fail
              go_loop [13] (fun qv => ∃ q : Nat, q ≤ z ∧ qv = .int .u64 q) (fun qv => 24 - (intOf qv).toNat)
              case atStart => exact ⟨0, Nat.zero_le _, rfl⟩
              case round =>
                obtain ⟨q, hq, rfl⟩ := hrel
                have hq24 : q ≤ 24 := by omega
                by_cases hqz : q < z
                · have hq' : (q : Int) < 24 := by omega
                  have hb0 := HZ.out q hqz
                  go_wp2_with (go_at_call 12; refine (bit_any bs G (P + q) _ hGr hf (by omega)).mono ?_; rintro e w' ⟨rfl, rfl⟩)
                  go_round
                  case rel => exact ⟨q + 1, by omega, by go_num⟩
                  case measure => simp [intOf]; omega
                · have hqe : q = z := by omega
                  subst hqe
                  have tf := hM.t.frozen 0
                  by_cases h24 : q = 24
                  · subst h24
                    clear HZ HZ1 hqz hq24 hz24
                    have Hval2 : Hid (resAt bs p n I = 2 ^ wordAt bs (P + 24) 6 ||| wordAt bs (P + 30) (wordAt bs (P + 24) 6)) := by
                      show _ = _
                      rw [Hval.out, Hcode.out, if_pos rfl]
                    have Hpos2 : Hid (posAt bs k (a + 6) (j + 1) = P + 30 + wordAt bs (P + 24) 6) := by
                      show _ = _
                      rw [Hpos.out, Hcode.out, if_pos rfl]
                    clear Hcode Hval Hpos
                    go_wp2_with fail
                    have hM2 := hM.at (by omega) (P + 24)
                    refine (cread_any bs G w.heap.size (P + 24) 6 _ (hM2.bytes hG) hf hM2.t (by omega) (by omega) (by omega)).mono ?_
                    rintro e w2 ⟨rfl, hT2, hU2⟩
                    have hM3 := hM2.move hU2 hT2 (by omega)
                    clear hM hM2 hT2 hU2 t0 tf hGr
                    have hv := wordAt_lt bs (P + 24) 6
                    generalize wordAt bs (P + 24) 6 = v at *
                    go_wp2_with fail
                    refine (cread_any bs G w.heap.size (P + 24 + 6) v w2 (hM3.bytes hG) hf hM3.t (by omega) (by omega) (by omega)).mono ?_
                    rintro e w3 ⟨rfl, hT3, hU3⟩
                    have hM4 := hM3.move hU3 hT3 (by omega)
                    clear hM3 hT3 hU3
                    have hlo := wordAt_lt bs (P + 24 + 6) v
                    have hlo' : wordAt bs (P + 24 + 6) v < 18446744073709551616 := Nat.lt_of_lt_of_le hlo (show 2 ^ v ≤ 2 ^ 64 from Nat.pow_le_pow_right (by decide) (by omega))
                    have u0 : w3.cell? ⟨w.heap.size + 1, I, .none⟩ = some (.int .u64 (if I < I then resAt bs p n I else 0 : Nat)) := hM4.u.cell (by omega)
                    have uf := hM4.u.frozen I
                    rw [if_neg (by omega)] at u0
                    go_wp2_with fail
                    go_roundw
                    case rel =>
                      have hIe := HI.out
                      have hjc := Hjc.out
                      refine ⟨j + 1, by omega, by go_num, ?_⟩
                      rw [Hpos2.out, show B + (j + 1) = I + 1 by omega, or_wide v _ (by omega) hlo']
                      have := hM4.put (by omega)
                      rw [Hval2.out] at this
                      exact this
                    case measure => simp [intOf]; omega
                  · have hq24' : (q : Int) < 24 := by omega
                    have hb1 := HZ1.out (by omega)
                    have hne : ((q : Int) == 24) = false := by simp; omega
                    have Hval2 : Hid (resAt bs p n I = (q * 2 ^ k % 18446744073709551616) ||| wordAt bs (P + (q + 1)) k) := by
                      show _ = _
                      rw [Hval.out, Hcode.out, if_neg h24]
                    have Hpos2 : Hid (posAt bs k (a + 6) (j + 1) = P + (q + 1) + k) := by
                      show _ = _
                      rw [Hpos.out, Hcode.out, if_neg h24]
                    clear Hcode Hval Hpos HZ HZ1 hqz
                    go_wp2_with (go_at_call 12; refine (bit_any bs G (P + q) _ hGr hf (by omega)).mono ?_; rintro e w' ⟨rfl, rfl⟩)
                    have hM2 := hM.at (by omega) (P + (q + 1))
                    refine (cread_any bs G w.heap.size (P + (q + 1)) k _ (hM2.bytes hG) hf hM2.t (by omega) (by omega) (by omega)).mono ?_
                    rintro e w3 ⟨rfl, hT3, hU3⟩
                    have hM4 := hM2.move hU3 hT3 (by omega)
                    clear hM hM2 hT3 hU3 t0 tf hGr hb1
                    have hlo := wordAt_lt bs (P + (q + 1)) k
                    have hlo' : wordAt bs (P + (q + 1)) k < 18446744073709551616 := Nat.lt_of_lt_of_le hlo (show 2 ^ k ≤ 2 ^ 64 from Nat.pow_le_pow_right (by decide) (by omega))
                    have u0 : w3.cell? ⟨w.heap.size + 1, I, .none⟩ = some (.int .u64 (if I < I then resAt bs p n I else 0 : Nat)) := hM4.u.cell (by omega)
                    have uf := hM4.u.frozen I
                    rw [if_neg (by omega)] at u0
                    go_wp2_with fail
                    go_roundw
                    case rel =>
                      have hIe := HI.out
                      have hjc := Hjc.out
                      refine ⟨j + 1, by omega, by go_num, ?_⟩
                      rw [Hpos2.out, show B + (j + 1) = I + 1 by omega, or_code q k _ hlo']
                      have := hM4.put (by omega)
                      rw [Hval2.out] at this
                      exact this
                    case measure => simp [intOf]; omega
            · have hjc' : j = cntAt n gi := by omega
              have hI1 : (n : Int) ≤ (B : Int) + j ∨ (B : Int) + 32 ≤ (B : Int) + j := by omega
              subst hjc'
              have hMe : Md w G w.heap.size (w.heap.size + 1) bs p n (grpAt bs p n (gi + 1)) (B + cntAt n gi) wr := by
                rw [HG1.out, if_neg hk63]; exact hM
              have hMe2 : Md w G w.heap.size (w.heap.size + 1) bs p n (grpAt bs p n (gi + 1)) (32 * (gi + 1)) wr :=
                ⟨hMe.t, hMe.u.congr fun i hi => by
                  have hB := HB.out
                  by_cases e : i < B + cntAt n gi
                  · rw [if_pos e, if_pos (by omega)]
                  · rw [if_neg e, if_neg (by omega)], hMe.below⟩
              clear hMe hM
              generalize hcc : cntAt n gi = c at *
              first | have hx : ¬ (B : Int) + c < (n : Int) := by omega | have hx : ¬ c < 32 := by omega
              go_wp2_with fail
              go_roundw
              case rel => exact ⟨gi + 1, by have := HB.out; omega, by have := HB.out; go_num, hMe2⟩
              case measure => simp [intOf]; omega
    · have hgie : gi = (n + 31) / 32 := by omega
      have hlt' : ¬ ((32 * gi : Nat) : Int) < (n : Int) := by omega
      have t0 : wr.cell? ⟨w.heap.size, 0, .none⟩ = some (.int .u64 (grpAt bs p n gi)) := hM.t.cell (by omega)
      have hfin : wr.rowIs (w.heap.size + 1) 24 n (fun i => .int .u64 (resAt bs p n i)) := hM.u.congr fun i hi => by rw [if_pos (by omega)]
      have hbel := hM.below
      have Hfin : Hid (gi = (n + 31) / 32) := hgie
      clear hgie hM
      go_wp2_with fail
      go_quiet (fail)
      go_wp2
      go_ret2
      exact ⟨by rw [← Hfin.out]; rfl, (show Below w.heap.size w (wr.drewN nq) from ⟨hbel.os, hbel.tape, hbel.output, hbel.size, hbel.block⟩), hfin⟩

end Go.Proofs.Ybulkbdey
