import Derived.Test.YbulkbdeyWide
import Derived.Lib.SliceRun
namespace Go.Proofs.Ybulkbdey
open Go.RowKit Go.Deep
set_option linter.unusedVariables false

theorem rowIs_setCells {b t n : Nat} : ∀ (vs : List Value) (o : Nat) (w : World) (f : Nat → Value), w.rowIs b t n f → (w.setCells b o vs).rowIs b t n (fun j => if o ≤ j ∧ j < o + vs.length then vs.getD (j - o) (.bool false) else f j)
  | [], o, w, f, h => h.congr fun i _ => by rw [if_neg (by simp only [List.length_nil]; omega)]
  | v :: r, o, w, f, h => by
    refine (rowIs_setCells r (o + 1) _ _ (h.set o v)).congr fun i _ => ?_
    by_cases e1 : i = o
    · subst e1
      rw [if_neg (by omega), if_pos rfl, if_pos (by simp)]; simp
    · by_cases e2 : o + 1 ≤ i ∧ i < o + 1 + r.length
      · rw [if_pos e2, if_pos (by simp; omega)]
        have : i - o = (i - (o + 1)) + 1 := by omega
        rw [this]; simp
      · rw [if_neg e2, if_neg e1, if_neg (by simp; omega)]

theorem Upd.setCells {S : Nat → Prop} {a : World} {b : Nat} (hS : S b) : ∀ (vs : List Value) (o : Nat) (w : World), Upd S a w → Upd S a (w.setCells b o vs)
  | [], _, _, h => h
  | v :: r, o, w, h => Upd.setCells hS r (o + 1) _ (h.setCell (p := ⟨b, o, .none⟩) hS v)

/-- the reader's state: the reader in R over G, the results in U, F what lay there -/
structure Rs (w : World) (R G U : Nat) (bs : List Nat) (p n : Nat) (F : Nat → Value) (at_ m : Nat) (wr : World) : Prop where
  rd : Rd wr R G bs at_
  u : wr.rowIs U 24 n (fun i => if i < m then .int .u64 (resAt bs p n i) else F i)
  upd : Upd (fun k => k = R ∨ k = U) w wr

variable {w wr w2 : World} {R G U p n at_ m : Nat} {bs : List Nat} {F : Nat → Value}

theorem Rs.move (h : Rs w R G U bs p n F at_ m wr) {at' : Nat} (hr : Rd w2 R G bs at') (hu : Upd (· = R) wr w2) (hUR : U ≠ R) : Rs w R G U bs p n F at' m w2 :=
  ⟨hr, hu.row h.u hUR, h.upd.trans (hu.weak fun k hk => Or.inl hk)⟩

theorem Rs.at (h : Rs w R G U bs p n F at_ m wr) (hUR : U ≠ R) (q : Nat) : Rs w R G U bs p n F q m (wr.setCell ⟨R, 1, .none⟩ (.int .u64 q)) :=
  h.move (h.rd.put q) (Upd.setCell (S := (· = R)) (p := ⟨R, 1, .none⟩) (Upd.refl _ _) rfl _) hUR

theorem Rs.below (h : Rs w R G U bs p n F at_ m wr) (hb : Below wr.heap.size wr w2) : Rs w R G U bs p n F at_ m w2 :=
  ⟨h.rd.below hb, h.u.of_block (hb.block _ h.u.lt), h.upd.trans (Upd.of_below hb)⟩

theorem Rs.put (h : Rs w R G U bs p n F at_ m wr) (hUR : U ≠ R) (hUG : U ≠ G) : Rs w R G U bs p n F at_ (m + 1) (wr.setCell ⟨U, m, .none⟩ (.int .u64 (resAt bs p n m))) :=
  ⟨⟨h.rd.r.setOther (by simp; omega) _, h.rd.g.setOther (by simp; omega) _, h.rd.ne⟩, (h.u.set m _).congr fun i hi => by
    by_cases e : i = m
    · subst e; rw [if_pos rfl, if_pos (by omega)]
    · rw [if_neg e]
      by_cases e2 : i < m
      · rw [if_pos e2, if_pos (by omega)]
      · rw [if_neg e2, if_neg (by omega)], h.upd.setCell (p := ⟨U, m, .none⟩) (Or.inr rfl) _⟩

theorem heap_setCells_ne {b : Nat} : ∀ (vs : List Value) (o : Nat) (w : World) (k : Nat), k ≠ b → (w.setCells b o vs).heap[k]? = w.heap[k]?
  | [], _, _, _, _ => rfl
  | v :: r, o, w, k, h => by
    rw [World.setCells, heap_setCells_ne r (o + 1) _ k h]
    exact Below.heap_setCell w ⟨b, o, .none⟩ v k h

theorem Rs.zeros (h : Rs w R G U bs p n F at_ m wr) (hUR : U ≠ R) (hUG : U ≠ G) {c : Nat} (hz : ∀ i, m ≤ i → i < m + c → resAt bs p n i = 0) : Rs w R G U bs p n F at_ (m + c) (wr.setCells U m (List.replicate c (.int .u64 0))) :=
  ⟨⟨h.rd.r.of_block (heap_setCells_ne _ _ _ _ (Ne.symm hUR)), h.rd.g.of_block (heap_setCells_ne _ _ _ _ (Ne.symm hUG)), h.rd.ne⟩, (rowIs_setCells _ _ _ _ h.u).congr fun i hi => by
    rw [List.length_replicate]
    by_cases e : m ≤ i ∧ i < m + c
    · rw [if_pos e, if_pos e.2, hz i e.1 e.2, List.getD_eq_getElem?_getD, List.getElem?_replicate, if_pos (by omega)]; rfl
    · rw [if_neg e]
      by_cases e2 : i < m
      · rw [if_pos e2, if_pos (by omega)]
      · rw [if_neg e2, if_neg (by omega)], Upd.setCells (Or.inr rfl) _ _ _ h.upd⟩

theorem or_code' (q k lo : Nat) (hlo : lo < 18446744073709551616) : bits .or .u64 (IntKind.u64.wrap ((q : Int) * 2 ^ k)) (lo : Int) = (((q * 2 ^ k % 18446744073709551616) ||| lo : Nat) : Int) := by
  rw [mul_nat, wrap_mod, or_nat _ _ (Nat.mod_lt _ (by decide)) hlo]

theorem zero24 (w : World) : (zeroValue 24).run Yba.prog w = .ok (.int .u64 0) w := by simp [Yba.zeroValue24]

set_option maxHeartbeats 3200000 in
theorem resid_any (bs : List Nat) (R G U p n : Nat) (F : Nat → Value) (w : World) (h0 : Rd w R G bs p) (hU : w.rowIs U 24 n F) (hf : Fits bs) (hp : p < 65536) (hn : n ≤ 512) (hUR : U ≠ R) (hUG : U ≠ G) (hF : ∀ i, (∃ z, F i = .int .u64 z)) :
    Calls Yba.prog 5 #[.pointer (some ⟨R, 0, .none⟩), .slice (some ⟨U, 0, .none⟩) n n] w fun e w' => e = .returned (.tuple #[]) ∧
      Rs w R G U bs p n F (grpAt bs p n ((n + 31) / 32)) (32 * ((n + 31) / 32)) w' := by
  go_enter Yba.func5, Yba.ntmps5
  go_wp2
  go_loopw [1] (fun sv wr => ∃ gi o : Nat, gi ≤ (n + 31) / 32 ∧ sv = .slice (some ⟨U, o, .none⟩) (n - 32 * gi) (n - 32 * gi) ∧ (32 * gi < n → o = 32 * gi) ∧ Rs w R G U bs p n F (grpAt bs p n gi) (32 * gi) wr) (fun sv _ => match sv with | .slice _ l _ => l | _ => 0)
  case atStart => exact ⟨0, 0, Nat.zero_le _, rfl, fun _ => rfl, h0, hU.congr fun i hi => by rw [if_neg (by omega)], Upd.refl _ _⟩
  case round =>
    obtain ⟨gi, o, hgi, rfl, ho, hM⟩ := hrel
    by_cases hlt : 32 * gi < n
    · have ho' := ho hlt
      subst ho'
      clear ho
      have hale := grpAt_le bs p n gi
      have hgi16 : gi < 16 := by omega
      have HG1 : Hid (grpAt bs p n (gi + 1) = if wordAt bs (grpAt bs p n gi) 6 = 63 then grpAt bs p n gi + 6 else posAt bs (wordAt bs (grpAt bs p n gi) 6) (grpAt bs p n gi + 6) (cntAt n gi)) := rfl
      have HR : Hid (∀ j, j < 32 → resAt bs p n (32 * gi + j) = if wordAt bs (grpAt bs p n gi) 6 = 63 then 0 else valAt bs (wordAt bs (grpAt bs p n gi) 6) (grpAt bs p n gi + 6) j) := fun j hj => resAt_group bs p n gi j hj
      obtain ⟨B, hB⟩ : ∃ B, 32 * gi = B := ⟨_, rfl⟩
      have HB : Hid (32 * gi = B) := hB
      have HC : Hid (cntAt n gi = min (n - B) 32) := by rw [← hB]; rfl
      rw [hB] at hM hlt HR ⊢
      clear hB
      generalize grpAt bs p n gi = a at *
      have hab : a < 200000 := by omega
      have hk := wordAt_lt bs a 6
      generalize hkk : wordAt bs a 6 = k at *
      have Hk : Hid (wordAt bs a 6 = k) := hkk
      clear hkk
      obtain ⟨L, hL⟩ : ∃ L, n - B = L := ⟨_, rfl⟩
      have HL : Hid (n - B = L) := hL
      rw [hL] at HC ⊢
      have hL0 : 0 < L := by omega
      have hL512 : L ≤ 512 := by omega
      clear hL
      obtain ⟨c, hc⟩ : ∃ c, cntAt n gi = c := ⟨_, rfl⟩
      have Hc : Hid (cntAt n gi = c) := hc
      have hC := HC.out
      rw [hc] at hC
      clear HC
      have hmin : min (L : Int) 32 = (c : Int) := by omega
      have hcL : (c : Int) ≤ (L : Int) := by omega
      have hcL' : c ≤ L := by omega
      have hc32 : c ≤ 32 := by omega
      have hc0 : 0 < c := by omega
      have HnL : Hid (L - c = n - 32 * (gi + 1)) := by
        have h1 := HB.out
        have h2 := HL.out
        show _ = _
        omega
      obtain ⟨o', hA, ho'⟩ : ∃ o', (if L = c then some (⟨U, B, .none⟩ : Addr) else some ⟨U, B + c, .none⟩) = some ⟨U, o', .none⟩ ∧ Hid (32 * (gi + 1) < n → o' = 32 * (gi + 1)) := by
        have h1 := HB.out
        have h2 := HL.out
        by_cases e : L = c
        · exact ⟨B, by rw [if_pos e], fun h => by omega⟩
        · exact ⟨B + c, by rw [if_neg e], fun h => by omega⟩
      have HcL : Hid (c = min L 32) := hC
      rw [hc] at HG1
      clear hc hC
      go_wp2_with fail
      refine (read_any bs R G a 6 wr hM.rd hf (by omega) (by omega)).mono ?_
      rintro e w1 ⟨rfl, hr1, hu1⟩
      have hM1 := hM.move hr1 hu1 hUR
      clear hM hr1 hu1
      rw [Hk.out]
      by_cases hk63 : k = 63
      · have hk' : ((k : Int) == 63) = true := by simp; omega
        have hcl : ∀ ty, (Builtin.clear_ #[25] ty #[.slice (some ⟨U, B, .none⟩) c L]).run Yba.prog w1 = .ok (.tuple #[]) (w1.setCells U B (List.replicate c (.int .u64 0))) :=
          fun ty => Lib.run_clear_slice w1 25 24 ty (.int .u64 0) Yba.underlying25 zero24 rfl rfl U B c L (by omega) (fun j hj => by have h2 := HL.out; rw [hM1.u.cell (by omega)]; rfl) (fun j hj => hM1.u.frozen _)
        have hM2 := hM1.zeros hUR hUG (c := c) (fun i h1 h2 => by
          have := HR.out (i - B) (by omega)
          rw [show B + (i - B) = i by omega, if_pos hk63] at this
          exact this)
        generalize w1.setCells U B (List.replicate c (.int .u64 0)) = w2 at *
        have hM3 : Rs w R G U bs p n F (grpAt bs p n (gi + 1)) (32 * (gi + 1)) w2 := by
          rw [HG1.out, if_pos hk63]
          have h1 := HB.out
          have h2 := HL.out
          have h3 := HcL.out
          exact ⟨hM2.rd, hM2.u.congr fun i hi => by
            by_cases e : i < B + c
            · rw [if_pos e, if_pos (by omega)]
            · rw [if_neg e, if_neg (by omega)], hM2.upd⟩
        clear hM1 hM2
        go_wp2_with fail
        go_roundw
        case rel => exact ⟨gi + 1, o', by have h1 := HB.out; omega, by rw [HnL.out], ho'.out, hM3⟩
        case measure => simp; omega
      · have hk' : ((k : Int) == 63) = false := by simp; omega
        go_wp2_with fail
        go_loopw [28] (fun iv wr => ∃ j : Nat, j ≤ c ∧ iv = .int .i64 j ∧ Rs w R G U bs p n F (posAt bs k (a + 6) j) (B + j) wr) (fun iv _ => c - (intOf iv).toNat)
        case atStart => exact ⟨0, Nat.zero_le _, rfl, hM1⟩
        case round =>
          clear hM1
          obtain ⟨j, hj, rfl, hM⟩ := hrel
          by_cases hjc : j < c
          · have hj32 : j < 32 := by omega
            have hIn : B + j < n := by have h2 := HL.out; omega
            have hRj := HR.out j hj32
            rw [if_neg hk63] at hRj
            have Hval : Hid (resAt bs p n (B + j) = (codeAt bs k (posAt bs k (a + 6) j)).1) := hRj
            have Hpos : Hid (posAt bs k (a + 6) (j + 1) = (codeAt bs k (posAt bs k (a + 6) j)).2) := rfl
            have hPle := posAt_le bs k (a + 6) (by omega) j
            clear hRj hj
            generalize posAt bs k (a + 6) j = P at *
            have hP : P < 300000 := by omega
            clear hPle
            obtain ⟨lz1, lz2⟩ := lz_peek bs P
            have hz24 := (zerosAt_spec bs P).1
            have Hcode : Hid (codeAt bs k P = if zerosAt bs P = 24 then (2 ^ wordAt bs (P + 24) 6 ||| wordAt bs (P + 30) (wordAt bs (P + 24) 6), P + 30 + wordAt bs (P + 24) 6) else ((zerosAt bs P * 2 ^ k % 18446744073709551616) ||| wordAt bs (P + (zerosAt bs P + 1)) k, P + (zerosAt bs P + 1) + k)) := rfl
            generalize zerosAt bs P = z at *
            have Lz1 : Hid (z < 24 → 64 - (Lib.bitLen (peekAt bs P) : Int) = (z : Int)) := lz1
            have Lz2 : Hid (z = 24 → 24 ≤ 64 - (Lib.bitLen (peekAt bs P) : Int) ∧ 64 - (Lib.bitLen (peekAt bs P) : Int) ≤ 64) := lz2
            clear lz1 lz2
            go_wp2_with fail
            refine (peek_any bs R G P wr hM.rd hf (by omega)).mono ?_
            rintro e w1 ⟨rfl, hb1⟩
            have hM1 := hM.below hb1
            clear hM hb1
            have hpl := peekAt_lt bs P
            go_wp2_with fail
            refine (Yba.bits_LeadingZeros64 _ _ (by omega) (by omega)).mono ?_
            rintro e w2 ⟨rfl, rfl⟩
            rw [Int.toNat_natCast]
            have r1 : w2.cell? ⟨R, 1, .none⟩ = some (.int .u64 P) := hM1.rd.r.cell (i := 1) (by omega)
            have rf := hM1.rd.r.frozen 1
            by_cases h24 : z = 24
            · have hQ := Lz2.out h24
              have Hval2 : Hid (resAt bs p n (B + j) = 2 ^ wordAt bs (P + 24) 6 ||| wordAt bs (P + 24 + 6) (wordAt bs (P + 24) 6)) := by
                show _ = _
                rw [Hval.out, Hcode.out, if_pos h24]
              have Hpos2 : Hid (posAt bs k (a + 6) (j + 1) = P + 24 + 6 + wordAt bs (P + 24) 6) := by
                show _ = _
                rw [Hpos.out, Hcode.out, if_pos h24]
              clear Hcode Hval Hpos Lz1 Lz2 hpl
              generalize 64 - (Lib.bitLen (peekAt bs P) : Int) = Q at *
              obtain ⟨hQ1, hQ2⟩ := hQ
              go_wp2_with fail
              have hM2 := hM1.at hUR (P + 24)
              refine (readWide_any bs R G (P + 24) _ hM2.rd hf (by omega)).mono ?_
              rintro e w3 ⟨rfl, hr3, hu3⟩
              have hM3 := hM2.move hr3 hu3 hUR
              clear hM1 hM2 hr3 hu3 r1 rf
              rw [← Hval2.out]
              obtain ⟨zF, hzF⟩ := hF (B + j)
              have u0 : w3.cell? ⟨U, B + j, .none⟩ = some (if B + j < B + j then .int .u64 (resAt bs p n (B + j)) else F (B + j)) := hM3.u.cell (by omega)
              rw [if_neg (by omega), hzF] at u0
              have uf := hM3.u.frozen (B + j)
              clear hzF
              go_wp2_with fail
              go_roundw
              case rel => exact ⟨j + 1, by omega, by go_num, by rw [Hpos2.out]; exact hM3.put hUR hUG⟩
              case measure => simp [intOf]; omega
            · have hQ := Lz1.out (by omega)
              have Hval2 : Hid (resAt bs p n (B + j) = (z * 2 ^ k % 18446744073709551616) ||| wordAt bs (P + (z + 1)) k) := by
                show _ = _
                rw [Hval.out, Hcode.out, if_neg h24]
              have Hpos2 : Hid (posAt bs k (a + 6) (j + 1) = P + (z + 1) + k) := by
                show _ = _
                rw [Hpos.out, Hcode.out, if_neg h24]
              clear Hcode Hval Hpos Lz1 Lz2 hpl
              rw [hQ]
              clear hQ
              have hz' : ¬ (24 : Int) ≤ (z : Int) := by omega
              go_wp2_with fail
              have hM2 := hM1.at hUR (P + (z + 1))
              refine (read_any bs R G (P + (z + 1)) k _ hM2.rd hf (by omega) (by omega)).mono ?_
              rintro e w3 ⟨rfl, hr3, hu3⟩
              have hM3 := hM2.move hr3 hu3 hUR
              clear hM1 hM2 hr3 hu3 r1 rf
              have hlo := wordAt_lt bs (P + (z + 1)) k
              have hlo' : wordAt bs (P + (z + 1)) k < 18446744073709551616 := Nat.lt_of_lt_of_le hlo (show 2 ^ k ≤ 2 ^ 64 from Nat.pow_le_pow_right (by decide) (by omega))
              obtain ⟨zF, hzF⟩ := hF (B + j)
              have u0 : w3.cell? ⟨U, B + j, .none⟩ = some (if B + j < B + j then .int .u64 (resAt bs p n (B + j)) else F (B + j)) := hM3.u.cell (by omega)
              rw [if_neg (by omega), hzF] at u0
              have uf := hM3.u.frozen (B + j)
              clear hzF
              go_wp2_with fail
              go_roundw
              case rel =>
                refine ⟨j + 1, by omega, by go_num, ?_⟩
                rw [Hpos2.out]
                have := hM3.put hUR hUG
                rw [Hval2.out, ← or_code' z k _ hlo'] at this
                exact this
              case measure => simp [intOf]; omega
          · have hjc' : j = c := by omega
            subst hjc'
            have hM3 : Rs w R G U bs p n F (grpAt bs p n (gi + 1)) (32 * (gi + 1)) wr := by
              rw [HG1.out, if_neg hk63]
              have h1 := HB.out
              have h2 := HL.out
              have h3 := HcL.out
              exact ⟨hM.rd, hM.u.congr fun i hi => by
                by_cases e : i < B + j
                · rw [if_pos e, if_pos (by omega)]
                · rw [if_neg e, if_neg (by omega)], hM.upd⟩
            clear hM
            go_wp2_with fail
            go_roundw
            case rel => exact ⟨gi + 1, o', by have h1 := HB.out; omega, by rw [HnL.out], ho'.out, hM3⟩
            case measure => simp; omega
    · have hgie : gi = (n + 31) / 32 := by omega
      have Hfin : Hid (gi = (n + 31) / 32) := hgie
      have hz : n - 32 * gi = 0 := by omega
      clear hgie
      go_wp2_with fail
      first | go_end0 | refine bodyPost_ret (results_none rfl _ _ _) rfl ?_
      exact ⟨rfl, by rw [← Hfin.out]; exact hM⟩
end Go.Proofs.Ybulkbdey
