import Derived.Test.YbulkbdgoFmtOthers
import Derived.Deep.WholeRow
namespace Go.Proofs.YbulkbdgoFmt
open Go.RowKit Go.Deep
set_option linter.unusedVariables false

set_option maxHeartbeats 4000000 in
set_option maxRecDepth 100000 in
theorem trip_any (sel : Nat) (hsel : sel < 256) (up : Bool) (vd vo : Value) (ld lo : List UInt8) (lim : Int) (te : TypeId) (ve : Value) (w : World) (hld : ld.length ≤ 512) (hlo : lo.length ≤ 512)
    (hd : Bs w vd ld) (ho : Bs w vo lo) (hE : w.cell? ⟨0, 0, .none⟩ = some (.iface te ve)) :
    Calls Ybaf.prog 4 #[.int .u8 sel, .bool up, vd, .int .i64 lim, vo] w fun e w' => e = .returned (.bool true) ∧ Below w.heap.size w w' := by
  have hmf : ∀ (fn : Fn) (first cap : Array Value) (w : World), (Instr.makeFunc fn first cap).run Ybaf.prog w = .ok (.func fn first cap) w := fun _ _ _ _ => rfl
  have HD : Hid (Bs w vd ld) := hd
  have HO : Hid (Bs w vo lo) := ho
  obtain ⟨pd, cd, rfl, hd1⟩ := hd
  obtain ⟨po, co, rfl, ho1⟩ := ho
  clear hd1 ho1
  have HE : Hid (w.cell? ⟨0, 0, .none⟩ = some (.iface te ve)) := hE
  clear hE
  go_enter Ybaf.func4, Ybaf.ntmps4
  go_wp2_with fail
  rw [show ((sel : Int) % 5) = ((sel % 5 : Nat) : Int) by omega]
  have hk : sel % 5 < 5 := Nat.mod_lt _ (by decide)
  generalize sel % 5 = k at *
  have hb1 : Below w.heap.size w (w.alloc (.cells #[.int .i64 k] 3)) := (Below.refl _ _).alloc (Nat.le_refl _) _
  have hK1 : (w.alloc (.cells #[.int .i64 k] 3)).cell? ⟨w.heap.size, 0, .none⟩ = some (.int .i64 k) := by go_simp
  have hs1 : (w.alloc (.cells #[.int .i64 k] 3)).heap.size = w.heap.size + 1 := by simp
  have HO1 := HO.out.below hb1
  generalize w.alloc (.cells #[.int .i64 k] 3) = w1 at *
  refine (fresh_any _ lo w1 HO1 hlo).mono ?_
  rintro e w2 ⟨v0, v1, v2, v3, v4, rfl, hb2, hf2⟩
  obtain ⟨f0, f1, f2, f3, f4⟩ := hf2 _ (.inl (Nat.le_refl _))
  obtain ⟨p0, n0, c0, rfl⟩ := f0.slice
  obtain ⟨p1, n1, c1, rfl⟩ := f1.slice
  obtain ⟨p2, n2, c2, rfl⟩ := f2.slice
  obtain ⟨p3, n3, c3, rfl⟩ := f3.slice
  obtain ⟨p4, n4, c4, rfl⟩ := f4.slice
  have H1 : Hid (pC_all p0 p1 p2 p3 p4 n0 n1 n2 n3 n4 c0 c1 c2 c3 c4) := pC_one p0 p1 p2 p3 p4 n0 n1 n2 n3 n4 c0 c1 c2 c3 c4
  have HB : Hid (Below w.heap.size w w2 ∧ w.heap.size < w2.heap.size ∧ w2.cell? ⟨w.heap.size, 0, .none⟩ = some (.int .i64 k)) := ⟨hb1.trans (hb2.mono hb1.size), by have := hb2.size; omega, by rw [hb2.cell (block_lt_of_cell hK1)]; exact hK1⟩
  have HF : Hid (FV w2 w2.heap.size (.slice p0 n0 c0) lo ∧ FV w2 w2.heap.size (.slice p1 n1 c1) lo ∧ FV w2 w2.heap.size (.slice p2 n2 c2) lo ∧ FV w2 w2.heap.size (.slice p3 n3 c3) lo ∧ FV w2 w2.heap.size (.slice p4 n4 c4) lo) := ⟨f0, f1, f2, f3, f4⟩
  clear f0 f1 f2 f3 f4 hf2 hb2 hK1 hs1 HO1 hb1
  go_wp2_with (refine wpList_store_row rfl 26 (.tmp 12) (.tmp 28) rfl _ (pC (.slice p0 n0 c0) (.slice p1 n1 c1) (.slice p2 n2 c2) (.slice p3 n3 c3) (.slice p4 n4 c4)) rfl rfl 26 _ (heap_alloc_last w2 _) info26 rfl H1.out ?_)
  rw [World.setRow_alloc_new]
  have HL : Hid (Lr w w.heap.size w2.heap.size k (pF (.slice p0 n0 c0) (.slice p1 n1 c1) (.slice p2 n2 c2) (.slice p3 n3 c3) (.slice p4 n4 c4)) (fun _ => lo) (w2.alloc (.cells (pC (.slice p0 n0 c0) (.slice p1 n1 c1) (.slice p2 n2 c2) (.slice p3 n3 c3) (.slice p4 n4 c4)) 26))) := Lr.start HB.out.1 HB.out.2.1 HB.out.2.2 HF.out
  generalize hf : pF (.slice p0 n0 c0) (.slice p1 n1 c1) (.slice p2 n2 c2) (.slice p3 n3 c3) (.slice p4 n4 c4) = f at *
  clear hf HB HF H1
  generalize hP : w2.heap.size = P at *
  generalize w2.alloc (.cells (pC (.slice p0 n0 c0) (.slice p1 n1 c1) (.slice p2 n2 c2) (.slice p3 n3 c3) (.slice p4 n4 c4)) 26) = w3 at *
  generalize (Value.agg (pC (.slice p0 n0 c0) (.slice p1 n1 c1) (.slice p2 n2 c2) (.slice p3 n3 c3) (.slice p4 n4 c4))) = va at *
  refine (octets_any _ lim 15 _ w3).mono ?_
  rintro e w4 ⟨L, F, rfl, hb4, hL4, hF4, hcL, hcF⟩
  have HL4 := HL.out.elem hb4 hL4 hF4 hcL hcF ⟨#[120]⟩
  have HL5 : Hid (Ls w w.heap.size P w4.heap.size L F k lim f (fun _ => lo) (w4.alloc (.cells #[.string ⟨#[120]⟩, .func (.func 19) #[] #[.pointer (some ⟨L, 0, .none⟩), .pointer (some ⟨F, 0, .none⟩)], .func (.func 21) #[] #[.pointer (some ⟨F, 0, .none⟩)]] 31))) := HL4
  clear HL HL4 hb4 hL4 hF4 hcL hcF
  go_wp2_with fail
  generalize hE : w4.heap.size = E at *
  generalize hK : w.heap.size = K at *
  generalize w4.alloc (.cells #[.string ⟨#[120]⟩, .func (.func 19) #[] #[.pointer (some ⟨L, 0, .none⟩), .pointer (some ⟨F, 0, .none⟩)], .func (.func 21) #[] #[.pointer (some ⟨F, 0, .none⟩)]] 31) = w5 at *
  have cE1 := HL5.out.cE1
  have h5 := HL5.out
  have HX : Hid (Calls Ybaf.prog 14 #[.slice pd ld.length cd, .bool up] w5.drew fun e w' => e = .returned (.string ⟨(hexOf up ld).toArray⟩) ∧ Ls w K P E L F k lim f (fun _ => lo) w' ∧ w'.cell? ⟨E, 1, .none⟩ = some (.func (.func 19) #[] #[.pointer (some ⟨L, 0, .none⟩), .pointer (some ⟨F, 0, .none⟩)])) :=
    (hex_any _ ld up w5.drew (h5.bs HD.out) hld).mono fun e w' ⟨he, hb⟩ => ⟨he, (h5.next (Below.refl _ _).drew).next hb, ((h5.next (Below.refl _ _).drew).next hb).cE1⟩
  have hsz : (⟨(hexOf up ld).toArray⟩ : ByteArray).size ≤ 4096 := by
    show (hexOf up ld).toArray.size ≤ 4096
    rw [List.size_toArray, hexOf_length]
    omega
  have hE0 : ∀ wx, Ls w K P E L F k lim f (fun _ => lo) wx → wx.cell? ⟨0, 0, .none⟩ = some (.iface te ve) := fun wx hx => by
    rw [hx.below.cell (block_lt_of_cell HE.out)]; exact HE.out
  by_cases good : 1 ≤ ld.length ∧ (ld.length : Int) ≤ lim
  · have hpar := parse_hexOf up ld lim
    rw [if_pos good] at hpar
    have HS : Hid (∀ wx, Ls w K P E L F k lim f (fun _ => lo) wx → Calls Ybaf.prog 19 #[.pointer (some ⟨P, 0, .none⟩), .string ⟨(hexOf up ld).toArray⟩, .pointer (some ⟨L, 0, .none⟩), .pointer (some ⟨F, 0, .none⟩)] wx fun e w' => e = .returned .nilIface ∧ ∃ v, Ls w K P E L F k lim (fun j => if j = k + 1 then v else f j) (fun i => if i = k then ld else lo) w') := fun wx hx =>
      (set_some ⟨(hexOf up ld).toArray⟩ lim te ve P L F K k f wx ld (by simpa using hpar) (hE0 wx hx) hsz hx.cL hx.cF hx.cK hk hx.row).mono fun e w' ⟨he, w2, v, hb, hf, hw⟩ => ⟨he, v, by rw [hw]; exact (hx.next hb).put hk (hf _ (.inr hx.row.lt))⟩
    clear hpar h5 hE0 hsz
    obtain ⟨good1, good2⟩ := good
    have good1' : (1 : Int) ≤ (ld.length : Int) := by omega
    generalize (⟨(hexOf up ld).toArray⟩ : ByteArray) = hx at *
    go_region_with (first | (go_at_call 14; refine HX.out.mono ?_; rintro e w6 ⟨rfl, h6, c6⟩) | (go_at_call 19; refine (HS.out _ (by assumption)).mono ?_; rintro e w7 ⟨rfl, v, h7⟩))
    all_goals
      clear HX HS h6 c6 cE1 HL5
      have cK := h7.cK
      have cE2 := h7.cE2
      have cP : w7.cell? ⟨P, k + 1, .none⟩ = some v := by rw [h7.row.cell (by omega), if_pos rfl]
      have fvk := h7.fv k hk
      simp only [if_pos] at fvk
      have hPl := h7.row.lt
      have HEq : Hid (Calls Ybaf.prog 12 #[v, .slice pd ld.length cd] w7 fun e w' => e = .returned (.bool true) ∧ w' = w7) := by
        have := equal_any v _ ld ld w7 fvk.bs (h7.bs HD.out)
        rwa [show (ld == ld) = true by simp] at this
      have HOt : Hid (Calls Ybaf.prog 13 #[.pointer (some ⟨P, 0, .none⟩), .int .i64 k, .slice po lo.length co] w7 fun e w' => e = .returned (.bool true) ∧ w' = w7) :=
        others_any P k _ _ _ lo w7 h7.fs hk (fun j hj hne => if_neg hne) (h7.bs HO.out)
      have HTx : Hid (Calls Ybaf.prog 21 #[.pointer (some ⟨P, 0, .none⟩), .pointer (some ⟨F, 0, .none⟩)] w7 fun e w' => e = .returned (.string ⟨(Lib.Hx.encode ld).toArray⟩) ∧ Ls w K P E L F k lim (fun j => if j = k + 1 then v else f j) (fun i => if i = k then ld else lo) w') :=
        (text_any P F K k v ld w7 h7.cF h7.cK hk cP fvk (by omega)).mono fun e w' ⟨he, hb⟩ => ⟨he, h7.next hb⟩
      have HHx : Hid (∀ wx, Ls w K P E L F k lim (fun j => if j = k + 1 then v else f j) (fun i => if i = k then ld else lo) wx → Calls Ybaf.prog 14 #[.slice pd ld.length cd, .bool false] wx fun e w' => e = .returned (.string ⟨(Lib.Hx.encode ld).toArray⟩) ∧ Below w.heap.size w w') := fun wx hx =>
        (hex_any _ ld false wx (hx.bs HD.out) hld).mono fun e w' ⟨he, hb⟩ => ⟨he, (hx.next hb).below⟩
      clear h7 fvk
      generalize (⟨(Lib.Hx.encode ld).toArray⟩ : ByteArray) = S at *
      go_wp2_with fail
      refine (pick_any P k hk w7 hPl).mono ?_
      rintro e w8 ⟨rfl, rfl⟩
      go_wp2_with fail
      refine HEq.out.mono ?_
      rintro e w9 ⟨rfl, rfl⟩
      go_wp2_with fail
      refine HOt.out.mono ?_
      rintro e w10 ⟨rfl, rfl⟩
      go_wp2_with fail
      refine HTx.out.mono ?_
      rintro e w11 ⟨rfl, h11⟩
      clear cK cE2 cP
      go_wp2_with fail
      refine (HHx.out _ h11).mono ?_
      rintro e w12 ⟨rfl, hb12⟩
      have HB : Hid (Below w.heap.size w w12) := hb12
      clear hb12 h11
      go_wp2
      go_ret
      exact ⟨rfl, HB.out⟩
  · have hpar := parse_hexOf up ld lim
    rw [if_neg good] at hpar
    have HS : Hid (∀ wx, Ls w K P E L F k lim f (fun _ => lo) wx → Calls Ybaf.prog 19 #[.pointer (some ⟨P, 0, .none⟩), .string ⟨(hexOf up ld).toArray⟩, .pointer (some ⟨L, 0, .none⟩), .pointer (some ⟨F, 0, .none⟩)] wx fun e w' => ∃ t x, e = .returned (.iface t x) ∧ Ls w K P E L F k lim f (fun _ => lo) w') := fun wx hx =>
      (set_none ⟨(hexOf up ld).toArray⟩ lim te ve P L F wx (by simpa using hpar) (hE0 wx hx) hsz hx.cL).mono fun e w' ⟨t, x, he, hb⟩ => ⟨t, x, he, hx.next hb⟩
    clear hpar h5 hE0 hsz
    generalize (⟨(hexOf up ld).toArray⟩ : ByteArray) = hx at *
    by_cases g1 : 1 ≤ ld.length
    · have g2 : lim < (ld.length : Int) := by omega
      have g1' : (1 : Int) ≤ (ld.length : Int) := by omega
      have g3 : decide ((ld.length : Int) ≤ lim) = false := decide_eq_false (by omega)
      have g4 : ¬ (ld.length : Int) ≤ lim := by omega
      clear good
      go_region_with (first | (go_at_call 14; refine HX.out.mono ?_; rintro e w6 ⟨rfl, h6, c6⟩) | (go_at_call 19; refine (HS.out _ (by assumption)).mono ?_; rintro e w7 ⟨t, x, rfl, h7⟩))
      all_goals
        clear HX HS h6 c6 cE1 HL5
        have cK := h7.cK
        have cE2 := h7.cE2
        have cP : w7.cell? ⟨P, k + 1, .none⟩ = some (f (k + 1)) := h7.row.cell (by omega)
        have fvk := h7.fv k hk
        have hPl := h7.row.lt
        have HEq : Hid (Calls Ybaf.prog 12 #[f (k + 1), .slice po lo.length co] w7 fun e w' => e = .returned (.bool true) ∧ w' = w7) := by
          have := equal_any (f (k + 1)) _ lo lo w7 fvk.bs (h7.bs HO.out)
          rwa [show (lo == lo) = true by simp] at this
        have HOt : Hid (Calls Ybaf.prog 13 #[.pointer (some ⟨P, 0, .none⟩), .int .i64 k, .slice po lo.length co] w7 fun e w' => e = .returned (.bool true) ∧ w' = w7) :=
          others_any P k _ _ _ lo w7 h7.fs hk (fun j hj hne => rfl) (h7.bs HO.out)
        have HTx : Hid (Calls Ybaf.prog 21 #[.pointer (some ⟨P, 0, .none⟩), .pointer (some ⟨F, 0, .none⟩)] w7 fun e w' => e = .returned (.string ⟨(Lib.Hx.encode lo).toArray⟩) ∧ Ls w K P E L F k lim f (fun _ => lo) w') :=
          (text_any P F K k _ lo w7 h7.cF h7.cK hk cP fvk (by omega)).mono fun e w' ⟨he, hb⟩ => ⟨he, h7.next hb⟩
        have HHx : Hid (∀ wx, Ls w K P E L F k lim f (fun _ => lo) wx → Calls Ybaf.prog 14 #[.slice po lo.length co, .bool false] wx fun e w' => e = .returned (.string ⟨(Lib.Hx.encode lo).toArray⟩) ∧ Below w.heap.size w w') := fun wx hx =>
          (hex_any _ lo false wx (hx.bs HO.out) hlo).mono fun e w' ⟨he, hb⟩ => ⟨he, (hx.next hb).below⟩
        clear h7 fvk
        generalize f (k + 1) = v at *
        generalize (⟨(Lib.Hx.encode lo).toArray⟩ : ByteArray) = S at *
        go_wp2_with fail
        refine (pick_any P k hk w7 hPl).mono ?_
        rintro e w8 ⟨rfl, rfl⟩
        go_wp2_with fail
        refine HEq.out.mono ?_
        rintro e w9 ⟨rfl, rfl⟩
        go_wp2_with fail
        refine HOt.out.mono ?_
        rintro e w10 ⟨rfl, rfl⟩
        go_wp2_with fail
        refine HTx.out.mono ?_
        rintro e w11 ⟨rfl, h11⟩
        clear cK cE2 cP
        go_wp2_with fail
        refine (HHx.out _ h11).mono ?_
        rintro e w12 ⟨rfl, hb12⟩
        have HB : Hid (Below w.heap.size w w12) := hb12
        clear hb12 h11
        go_wp2
        go_ret
        exact ⟨rfl, HB.out⟩
    · have g1' : (ld.length : Int) < 1 := by omega
      clear good
      go_region_with (first | (go_at_call 14; refine HX.out.mono ?_; rintro e w6 ⟨rfl, h6, c6⟩) | (go_at_call 19; refine (HS.out _ (by assumption)).mono ?_; rintro e w7 ⟨t, x, rfl, h7⟩))
      all_goals
        clear HX HS h6 c6 cE1 HL5
        have cK := h7.cK
        have cE2 := h7.cE2
        have cP : w7.cell? ⟨P, k + 1, .none⟩ = some (f (k + 1)) := h7.row.cell (by omega)
        have fvk := h7.fv k hk
        have hPl := h7.row.lt
        have HEq : Hid (Calls Ybaf.prog 12 #[f (k + 1), .slice po lo.length co] w7 fun e w' => e = .returned (.bool true) ∧ w' = w7) := by
          have := equal_any (f (k + 1)) _ lo lo w7 fvk.bs (h7.bs HO.out)
          rwa [show (lo == lo) = true by simp] at this
        have HOt : Hid (Calls Ybaf.prog 13 #[.pointer (some ⟨P, 0, .none⟩), .int .i64 k, .slice po lo.length co] w7 fun e w' => e = .returned (.bool true) ∧ w' = w7) :=
          others_any P k _ _ _ lo w7 h7.fs hk (fun j hj hne => rfl) (h7.bs HO.out)
        have HTx : Hid (Calls Ybaf.prog 21 #[.pointer (some ⟨P, 0, .none⟩), .pointer (some ⟨F, 0, .none⟩)] w7 fun e w' => e = .returned (.string ⟨(Lib.Hx.encode lo).toArray⟩) ∧ Ls w K P E L F k lim f (fun _ => lo) w') :=
          (text_any P F K k _ lo w7 h7.cF h7.cK hk cP fvk (by omega)).mono fun e w' ⟨he, hb⟩ => ⟨he, h7.next hb⟩
        have HHx : Hid (∀ wx, Ls w K P E L F k lim f (fun _ => lo) wx → Calls Ybaf.prog 14 #[.slice po lo.length co, .bool false] wx fun e w' => e = .returned (.string ⟨(Lib.Hx.encode lo).toArray⟩) ∧ Below w.heap.size w w') := fun wx hx =>
          (hex_any _ lo false wx (hx.bs HO.out) hlo).mono fun e w' ⟨he, hb⟩ => ⟨he, (hx.next hb).below⟩
        clear h7 fvk
        generalize f (k + 1) = v at *
        generalize (⟨(Lib.Hx.encode lo).toArray⟩ : ByteArray) = S at *
        go_wp2_with fail
        refine (pick_any P k hk w7 hPl).mono ?_
        rintro e w8 ⟨rfl, rfl⟩
        go_wp2_with fail
        refine HEq.out.mono ?_
        rintro e w9 ⟨rfl, rfl⟩
        go_wp2_with fail
        refine HOt.out.mono ?_
        rintro e w10 ⟨rfl, rfl⟩
        go_wp2_with fail
        refine HTx.out.mono ?_
        rintro e w11 ⟨rfl, h11⟩
        clear cK cE2 cP
        go_wp2_with fail
        refine (HHx.out _ h11).mono ?_
        rintro e w12 ⟨rfl, hb12⟩
        have HB : Hid (Below w.heap.size w w12) := hb12
        clear hb12 h11
        go_wp2
        go_ret
        exact ⟨rfl, HB.out⟩

end Go.Proofs.YbulkbdgoFmt
