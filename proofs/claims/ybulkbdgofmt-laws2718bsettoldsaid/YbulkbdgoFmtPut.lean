import Derived.Test.YbulkbdgoFmtClos9
import Derived.Deep.WholeRow
namespace Go.Proofs.YbulkbdgoFmt
open Go.RowKit Go.Deep
set_option linter.unusedVariables false

theorem FV.far {w : World} {P Q : Nat} {v : Value} {l : List UInt8} (h : FV w P v l) (hq : w.heap.size ≤ Q) : FV w Q v l := by
  rcases h with h | ⟨b, c, q1, q2, q3, q4⟩
  · exact .inl h
  · exact .inr ⟨b, c, q1, by omega, q3, q4⟩

theorem parse_empty (s : ByteArray) (lim : Int) (h : s.size = 0) : parse s.data.toList lim = none := by
  have : s.data.toList = [] := List.eq_nil_of_length_eq_zero (by rw [← Lib.size_eq]; exact h)
  unfold parse
  rw [if_pos this]

theorem decode_even : ∀ l : List UInt8, (Lib.Hx.decode l).2 = .ok → l.length % 2 = 0
  | [], _ => rfl
  | [c], h => by
    rw [Lib.Hx.decode_one] at h
    split at h <;> cases h
  | p :: q :: t, h => by
    rw [Lib.Hx.decode_two] at h
    split at h
    · cases h
    · split at h
      · cases h
      · have := decode_even t h
        simp only [List.length_cons]
        omega

theorem parse_odd (s : ByteArray) (lim : Int) (h : s.size % 2 = 1) : parse s.data.toList lim = none := by
  have hl : s.data.toList.length = s.size := (Lib.size_eq s).symm
  unfold parse
  by_cases h0 : s.data.toList = []
  · rw [if_pos h0]
  · rw [if_neg h0]
    cases hd : Lib.Hx.decode s.data.toList with
    | mk l o =>
      cases o with
      | ok =>
        have := decode_even s.data.toList (by rw [hd])
        omega
      | bad q => rfl
      | odd => rfl

theorem parse_bad {s : List UInt8} {lim : Int} {pre : List UInt8} {q : UInt8} (h : Lib.Hx.decode s = (pre, .bad q)) : parse s lim = none := by
  unfold parse
  rw [h]
  split <;> rfl

theorem valOf_byte (b : UInt8) : valOf b.toNat = if 15 < Lib.Hx.v b then (0, false) else (Lib.Hx.v b, true) := by
  have := valOf_v ⟨b.toNat, b.toNat_lt⟩
  simpa using this

theorem Lr.elem9 {w0 w3 w4 : World} {K P L F k : Nat} {lim : Int} {f : Nat → Value} {g : Nat → List UInt8} (h : Lr w0 K P k f g w3) (hb : Below (w3.heap.size + 1) (w3.alloc (.cells #[.int .i64 0] 3)) w4) (hL : w3.heap.size + 1 ≤ L) (hF : w3.heap.size + 1 ≤ F)
    (cL : w4.cell? ⟨L, 0, .none⟩ = some (.int .i64 lim)) (cF : w4.cell? ⟨F, 0, .none⟩ = some (.func (.func 9) #[] #[.pointer (some ⟨w3.heap.size, 0, .none⟩), .pointer (some ⟨K, 0, .none⟩)])) (nm : ByteArray) :
    Lt w0 K P w4.heap.size L F w3.heap.size k 0 lim nm f g (w4.alloc (.cells #[.string nm, .func (.func 19) #[] #[.pointer (some ⟨L, 0, .none⟩), .pointer (some ⟨F, 0, .none⟩)], .func (.func 21) #[] #[.pointer (some ⟨F, 0, .none⟩)]] 31)) := by
  have hPl := h.row.lt
  have hKl := block_lt_of_cell h.cK
  simp only at hKl
  have hs := hb.size
  have hs3 := h.below.size
  have hsa : (w3.alloc (.cells #[.int .i64 0] 3)).heap.size = w3.heap.size + 1 := by simp
  have hba : Below w3.heap.size w3 (w3.alloc (.cells #[.int .i64 0] 3)) := (Below.refl _ _).alloc (Nat.le_refl _) _
  have hbn : Below w4.heap.size w4 (w4.alloc (.cells #[.string nm, .func (.func 19) #[] #[.pointer (some ⟨L, 0, .none⟩), .pointer (some ⟨F, 0, .none⟩)], .func (.func 21) #[] #[.pointer (some ⟨F, 0, .none⟩)]] 31)) := (Below.refl _ _).alloc (Nat.le_refl _) _
  have hb1 : Below (w3.heap.size + 1) (w3.alloc (.cells #[.int .i64 0] 3)) (w4.alloc (.cells #[.string nm, .func (.func 19) #[] #[.pointer (some ⟨L, 0, .none⟩), .pointer (some ⟨F, 0, .none⟩)], .func (.func 21) #[] #[.pointer (some ⟨F, 0, .none⟩)]] 31)) := hb.trans (hbn.mono (by omega))
  have hb2 : Below w3.heap.size w3 (w4.alloc (.cells #[.string nm, .func (.func 19) #[] #[.pointer (some ⟨L, 0, .none⟩), .pointer (some ⟨F, 0, .none⟩)], .func (.func 21) #[] #[.pointer (some ⟨F, 0, .none⟩)]] 31)) := hba.trans (hb1.mono (by omega))
  have hC : (w3.alloc (.cells #[.int .i64 0] 3)).rowIs w3.heap.size 3 1 (fun _ => .int .i64 (0 : Nat)) :=
    World.rowIs_alloc w3 _ 3 _ (fun o ho => by
      have : o = 0 := by simp at ho; omega
      subst this; rfl)
  refine ⟨h.below.trans (hb2.mono hs3), h.base, hs3, h.row.of_block (hb2.block _ hPl), h.cb, fun i hi => ⟨(h.fv i hi).below hb2, ((h.fv i hi).far (Nat.le_refl _)).below hb2⟩, hC.of_block (hb1.block _ (by omega)), by rw [hb2.cell (block_lt_of_cell h.cK)]; exact h.cK, by go_simp, by go_simp, by go_simp, by rw [hbn.cell (block_lt_of_cell cL)]; exact cL, by rw [hbn.cell (block_lt_of_cell cF)]; exact cF, ⟨h.nK, by omega⟩, ⟨by omega, by omega⟩, ⟨by omega, by omega⟩, ⟨by omega, by omega⟩, by omega⟩

theorem bs_kept {w w' : World} {base : Nat} {v : Value} {l : List UInt8} (h : w.ownsRow base 5 1 v l.length ((zs l).map (Value.int .u8))) (hf : ∀ b, base ≤ b → b < w.heap.size → w'.heap[b]? = w.heap[b]?) : Bs w' v l := by
  rcases of_owns h (P := w.heap.size) (.inl (Nat.le_refl _)) with ⟨q1, q2⟩ | ⟨b, c, q1, q2, q3, q4⟩
  · exact FV.bs (P := 0) (.inl ⟨q1, q2⟩)
  · have hb : base ≤ b := (h.lt b (by rw [q1]; rfl)).1
    refine ⟨_, c, q1, fun _ => ⟨b, 0, rfl, fun i hi => ?_⟩⟩
    rw [World.cell?_of_block (w := w) (hf b hb q3)]
    exact q4 i hi

set_option maxHeartbeats 4000000 in
set_option maxRecDepth 100000 in
theorem put_any (sel : Nat) (hsel : sel < 256) (nm s : ByteArray) (vo : Value) (lo : List UInt8) (lim : Int) (te : TypeId) (ve : Value) (w : World) (hs : s.size ≤ 1024) (hlo : lo.length ≤ 512)
    (ho : Bs w vo lo) (hE : w.cell? ⟨0, 0, .none⟩ = some (.iface te ve)) :
    Calls Ybaf.prog 3 #[.int .u8 sel, .string nm, .string s, .int .i64 lim, vo] w fun e w' => e = .returned (.bool true) ∧ Below w.heap.size w w' := by
  have hmf : ∀ (fn : Fn) (first cap : Array Value) (w : World), (Instr.makeFunc fn first cap).run Ybaf.prog w = .ok (.func fn first cap) w := fun _ _ _ _ => rfl
  have HO : Hid (Bs w vo lo) := ho
  obtain ⟨po, co, rfl, ho1⟩ := ho
  clear ho1
  have HE : Hid (w.cell? ⟨0, 0, .none⟩ = some (.iface te ve)) := hE
  clear hE
  go_enter Ybaf.func3, Ybaf.ntmps3
  go_wp2_with fail
  rw [show ((sel : Int) % 5) = ((sel % 5 : Nat) : Int) by omega]
  have hk : sel % 5 < 5 := Nat.mod_lt _ (by decide)
  generalize sel % 5 = k at *
  have hb1 : Below w.heap.size w (w.alloc (.cells #[.int .i64 k] 3)) := (Below.refl _ _).alloc (Nat.le_refl _) _
  have hK1 : (w.alloc (.cells #[.int .i64 k] 3)).cell? ⟨w.heap.size, 0, .none⟩ = some (.int .i64 k) := by go_simp
  have hs1 : (w.alloc (.cells #[.int .i64 k] 3)).heap.size = w.heap.size + 1 := by simp
  have HO1 := HO.out.below hb1
  generalize w.alloc (.cells #[.int .i64 k] 3) = w1 at *
  refine (fresh_any _ lo w1 HO1 hlo).mono ?_
  rintro e w2 ⟨v0, v1, v2, v3, v4, rfl, hb2, hf2⟩
  obtain ⟨f0, f1, f2, f3, f4⟩ := hf2 _ (.inl (Nat.le_refl _))
  obtain ⟨p0, n0, c0, rfl⟩ := f0.slice
  obtain ⟨p1, n1, c1, rfl⟩ := f1.slice
  obtain ⟨p2, n2, c2, rfl⟩ := f2.slice
  obtain ⟨p3, n3, c3, rfl⟩ := f3.slice
  obtain ⟨p4, n4, c4, rfl⟩ := f4.slice
  have H1 : Hid (pC_all p0 p1 p2 p3 p4 n0 n1 n2 n3 n4 c0 c1 c2 c3 c4) := pC_one p0 p1 p2 p3 p4 n0 n1 n2 n3 n4 c0 c1 c2 c3 c4
  have HB : Hid (Below w.heap.size w w2 ∧ w.heap.size < w2.heap.size ∧ w2.cell? ⟨w.heap.size, 0, .none⟩ = some (.int .i64 k)) := ⟨hb1.trans (hb2.mono hb1.size), by have := hb2.size; omega, by rw [hb2.cell (block_lt_of_cell hK1)]; exact hK1⟩
  have HF : Hid (FV w2 w2.heap.size (.slice p0 n0 c0) lo ∧ FV w2 w2.heap.size (.slice p1 n1 c1) lo ∧ FV w2 w2.heap.size (.slice p2 n2 c2) lo ∧ FV w2 w2.heap.size (.slice p3 n3 c3) lo ∧ FV w2 w2.heap.size (.slice p4 n4 c4) lo) := ⟨f0, f1, f2, f3, f4⟩
  clear f0 f1 f2 f3 f4 hf2 hb2 hK1 hs1 HO1 hb1
  have HL : Hid (Lr w w.heap.size w2.heap.size k (pF (.slice p0 n0 c0) (.slice p1 n1 c1) (.slice p2 n2 c2) (.slice p3 n3 c3) (.slice p4 n4 c4)) (fun _ => lo) (w2.alloc (.cells (pC (.slice p0 n0 c0) (.slice p1 n1 c1) (.slice p2 n2 c2) (.slice p3 n3 c3) (.slice p4 n4 c4)) 26))) := Lr.start HB.out.1 HB.out.2.1 HB.out.2.2 HF.out
  go_wp2_with (refine wpList_store_row rfl 26 (.tmp 12) (.tmp 36) rfl _ (pC (.slice p0 n0 c0) (.slice p1 n1 c1) (.slice p2 n2 c2) (.slice p3 n3 c3) (.slice p4 n4 c4)) rfl rfl 26 _ (heap_alloc_last w2 _) info26 rfl H1.out ?_; rw [World.setRow_alloc_new])
  have hw3s : (w2.alloc (.cells (pC (.slice p0 n0 c0) (.slice p1 n1 c1) (.slice p2 n2 c2) (.slice p3 n3 c3) (.slice p4 n4 c4)) 26)).heap.size = w2.heap.size + 1 := by simp
  generalize hf : pF (.slice p0 n0 c0) (.slice p1 n1 c1) (.slice p2 n2 c2) (.slice p3 n3 c3) (.slice p4 n4 c4) = f at *
  clear hf HB HF H1
  generalize hP : w2.heap.size = P at *
  generalize w2.alloc (.cells (pC (.slice p0 n0 c0) (.slice p1 n1 c1) (.slice p2 n2 c2) (.slice p3 n3 c3) (.slice p4 n4 c4)) 26) = w3 at *
  generalize (Value.agg (pC (.slice p0 n0 c0) (.slice p1 n1 c1) (.slice p2 n2 c2) (.slice p3 n3 c3) (.slice p4 n4 c4))) = va at *
  rw [← hw3s]
  refine (octets_any _ lim 9 _ _).mono ?_
  rintro e w4 ⟨L, F, rfl, hb4, hL4, hF4, hcL, hcF⟩
  have hsa : (w3.alloc (.cells #[.int .i64 0] 3)).heap.size = w3.heap.size + 1 := by simp
  rw [hsa] at hb4 hL4 hF4
  have HL4 := HL.out.elem9 hb4 hL4 hF4 hcL hcF nm
  generalize hC : w3.heap.size = C at *
  have HL5 : Hid (Lt w w.heap.size P w4.heap.size L F C k 0 lim nm f (fun _ => lo) (w4.alloc (.cells #[.string nm, .func (.func 19) #[] #[.pointer (some ⟨L, 0, .none⟩), .pointer (some ⟨F, 0, .none⟩)], .func (.func 21) #[] #[.pointer (some ⟨F, 0, .none⟩)]] 31))) := HL4
  clear HL HL4 hb4 hL4 hF4 hcL hcF hsa
  clear hw3s
  generalize hEE : w4.heap.size = E at *
  generalize hK : w.heap.size = K at *
  have hE0 : ∀ wx, Lt w K P E L F C k 0 lim nm f (fun _ => lo) wx → wx.cell? ⟨0, 0, .none⟩ = some (.iface te ve) := fun wx hx => by
    rw [hx.below.cell (block_lt_of_cell HE.out)]; exact HE.out
  by_cases hsz0 : s.size = 0
  · have hsz0' : (s.size : Int) = 0 := by omega
    have hempty : parse s.data.toList lim = none := parse_empty s lim hsz0
    go_wp2_with fail
    generalize w4.alloc (.cells #[.string nm, .func (.func 19) #[] #[.pointer (some ⟨L, 0, .none⟩), .pointer (some ⟨F, 0, .none⟩)], .func (.func 21) #[] #[.pointer (some ⟨F, 0, .none⟩)]] 31) = w5 at *
    go_loopw [15, 16, 17] (fun okv wv iv wr => okv = .bool false ∧ wv = .slice .none 0 0 ∧ iv = .int .i64 0 ∧ Lt w K P E L F C k 0 lim nm f (fun _ => lo) wr) (fun _ _ _ _ => 0)
    case atStart => exact ⟨by first | rfl | (simp only [Value.bool.injEq, beq_eq_false_iff_ne]; exact ho1), rfl, rfl, HL5.out⟩
    case round =>
      obtain ⟨rfl, rfl, rfl, hz⟩ := hrel
      clear HL5
      have hbad : parse s.data.toList lim = none := hempty
      have cE1 := hz.cE1
      have HS : Hid (Calls Ybaf.prog 19 #[.pointer (some ⟨P, 0, .none⟩), .string s, .pointer (some ⟨L, 0, .none⟩), .pointer (some ⟨F, 0, .none⟩)] wr fun e w' => ∃ t x, e = .returned (.iface t x) ∧ Lt w K P E L F C k 0 lim nm f (fun _ => lo) w') :=
        (set_none s lim te ve P L F wr hbad (hE0 _ hz) (by omega) hz.cL).mono fun e w' ⟨t, x, he, hb⟩ => ⟨t, x, he, hz.next hb⟩
      clear hbad hz hE0
      go_wp2_with fail
      refine HS.out.mono ?_
      rintro e w7 ⟨t, x, rfl, h7⟩
      clear HS cE1
      have cK := h7.cK
      have cE2 := h7.cE2
      have cC : w7.cell? ⟨C, 0, .none⟩ = some (.int .i64 0) := h7.cC.cell (by omega)
      have cP : w7.cell? ⟨P, k + 1, .none⟩ = some (f (k + 1)) := h7.row.cell (by omega)
      have fvk := (h7.fv k hk).1
      have hPl := h7.row.lt
      have HEq : Hid (Calls Ybaf.prog 12 #[f (k + 1), .slice po lo.length co] w7 fun e w' => e = .returned (.bool true) ∧ w' = w7) := by
        have := equal_any (f (k + 1)) _ lo lo w7 fvk.bs (h7.bs HO.out)
        rwa [show (lo == lo) = true by simp] at this
      have HOt : Hid (Calls Ybaf.prog 13 #[.pointer (some ⟨P, 0, .none⟩), .int .i64 k, .slice po lo.length co] w7 fun e w' => e = .returned (.bool true) ∧ w' = w7) :=
        others_any P k _ _ _ lo w7 h7.fs hk (fun j hj hne => rfl) (h7.bs HO.out)
      have HTx : Hid (Calls Ybaf.prog 21 #[.pointer (some ⟨P, 0, .none⟩), .pointer (some ⟨F, 0, .none⟩)] w7 fun e w' => e = .returned (.string ⟨(Lib.Hx.encode lo).toArray⟩) ∧ Lt w K P E L F C k 1 lim nm f (fun _ => lo) w') :=
        text9 lo h7 (by omega) hk rfl (by omega)
      have HHx : Hid (∀ wx, Lt w K P E L F C k 1 lim nm f (fun _ => lo) wx → Calls Ybaf.prog 14 #[f (k + 1), .bool false] wx fun e w' => e = .returned (.string ⟨(Lib.Hx.encode lo).toArray⟩) ∧ Below w.heap.size w w') := fun wx hx =>
        (hex_any _ lo false wx (hx.fv k hk).1.bs hlo).mono fun e w' ⟨he, hb⟩ => ⟨he, (hx.next hb).below⟩
      clear h7 fvk
      generalize f (k + 1) = v at *
      generalize (⟨(Lib.Hx.encode lo).toArray⟩ : ByteArray) = S at *
      go_wp2_with fail
      refine (pick_any P k hk w7 hPl).mono ?_
      rintro e w8 ⟨rfl, rfl⟩
      go_wp2_with fail
      refine HEq.out.mono ?_
      rintro e w9 ⟨rfl, rfl⟩
      go_wp2_with fail
      refine HOt.out.mono ?_
      rintro e w10 ⟨rfl, rfl⟩
      go_wp2_with fail
      refine (pick_any P k hk w10 hPl).mono ?_
      rintro e w10' ⟨rfl, rfl⟩
      go_wp2_with fail
      refine HTx.out.mono ?_
      rintro e w11 ⟨rfl, h11⟩
      clear cK cE2 cP cC
      go_wp2_with fail
      refine (HHx.out _ h11).mono ?_
      rintro e w12 ⟨rfl, hb12⟩
      have HB : Hid (Below w.heap.size w w12) := hb12
      clear hb12 h11
      go_wp2
      go_ret
      exact ⟨rfl, HB.out⟩
  · by_cases hodd : s.size % 2 = 1
    · have hempty : parse s.data.toList lim = none := parse_odd s lim hodd
      have hp0 : (0 : Int) < (s.size : Int) := by omega
      have ho1 : ¬ (s.size : Int) % 2 = 0 := by omega
      have ho2 : decide ((s.size : Int) % 2 = 0) = false := decide_eq_false ho1
      go_wp2_with fail
      generalize w4.alloc (.cells #[.string nm, .func (.func 19) #[] #[.pointer (some ⟨L, 0, .none⟩), .pointer (some ⟨F, 0, .none⟩)], .func (.func 21) #[] #[.pointer (some ⟨F, 0, .none⟩)]] 31) = w5 at *
      go_loopw [15, 16, 17] (fun okv wv iv wr => okv = .bool false ∧ wv = .slice .none 0 0 ∧ iv = .int .i64 0 ∧ Lt w K P E L F C k 0 lim nm f (fun _ => lo) wr) (fun _ _ _ _ => 0)
      case atStart => exact ⟨by first | rfl | (simp only [Value.bool.injEq, beq_eq_false_iff_ne]; exact ho1), rfl, rfl, HL5.out⟩
      case round =>
        obtain ⟨rfl, rfl, rfl, hz⟩ := hrel
        clear HL5
        have hbad : parse s.data.toList lim = none := hempty
        have cE1 := hz.cE1
        have HS : Hid (Calls Ybaf.prog 19 #[.pointer (some ⟨P, 0, .none⟩), .string s, .pointer (some ⟨L, 0, .none⟩), .pointer (some ⟨F, 0, .none⟩)] wr fun e w' => ∃ t x, e = .returned (.iface t x) ∧ Lt w K P E L F C k 0 lim nm f (fun _ => lo) w') :=
          (set_none s lim te ve P L F wr hbad (hE0 _ hz) (by omega) hz.cL).mono fun e w' ⟨t, x, he, hb⟩ => ⟨t, x, he, hz.next hb⟩
        clear hbad hz hE0
        go_wp2_with fail
        refine HS.out.mono ?_
        rintro e w7 ⟨t, x, rfl, h7⟩
        clear HS cE1
        have cK := h7.cK
        have cE2 := h7.cE2
        have cC : w7.cell? ⟨C, 0, .none⟩ = some (.int .i64 0) := h7.cC.cell (by omega)
        have cP : w7.cell? ⟨P, k + 1, .none⟩ = some (f (k + 1)) := h7.row.cell (by omega)
        have fvk := (h7.fv k hk).1
        have hPl := h7.row.lt
        have HEq : Hid (Calls Ybaf.prog 12 #[f (k + 1), .slice po lo.length co] w7 fun e w' => e = .returned (.bool true) ∧ w' = w7) := by
          have := equal_any (f (k + 1)) _ lo lo w7 fvk.bs (h7.bs HO.out)
          rwa [show (lo == lo) = true by simp] at this
        have HOt : Hid (Calls Ybaf.prog 13 #[.pointer (some ⟨P, 0, .none⟩), .int .i64 k, .slice po lo.length co] w7 fun e w' => e = .returned (.bool true) ∧ w' = w7) :=
          others_any P k _ _ _ lo w7 h7.fs hk (fun j hj hne => rfl) (h7.bs HO.out)
        have HTx : Hid (Calls Ybaf.prog 21 #[.pointer (some ⟨P, 0, .none⟩), .pointer (some ⟨F, 0, .none⟩)] w7 fun e w' => e = .returned (.string ⟨(Lib.Hx.encode lo).toArray⟩) ∧ Lt w K P E L F C k 1 lim nm f (fun _ => lo) w') :=
          text9 lo h7 (by omega) hk rfl (by omega)
        have HHx : Hid (∀ wx, Lt w K P E L F C k 1 lim nm f (fun _ => lo) wx → Calls Ybaf.prog 14 #[f (k + 1), .bool false] wx fun e w' => e = .returned (.string ⟨(Lib.Hx.encode lo).toArray⟩) ∧ Below w.heap.size w w') := fun wx hx =>
          (hex_any _ lo false wx (hx.fv k hk).1.bs hlo).mono fun e w' ⟨he, hb⟩ => ⟨he, (hx.next hb).below⟩
        clear h7 fvk
        generalize f (k + 1) = v at *
        generalize (⟨(Lib.Hx.encode lo).toArray⟩ : ByteArray) = S at *
        go_wp2_with fail
        refine (pick_any P k hk w7 hPl).mono ?_
        rintro e w8 ⟨rfl, rfl⟩
        go_wp2_with fail
        refine HEq.out.mono ?_
        rintro e w9 ⟨rfl, rfl⟩
        go_wp2_with fail
        refine HOt.out.mono ?_
        rintro e w10 ⟨rfl, rfl⟩
        go_wp2_with fail
        refine (pick_any P k hk w10 hPl).mono ?_
        rintro e w10' ⟨rfl, rfl⟩
        go_wp2_with fail
        refine HTx.out.mono ?_
        rintro e w11 ⟨rfl, h11⟩
        clear cK cE2 cP cC
        go_wp2_with fail
        refine (HHx.out _ h11).mono ?_
        rintro e w12 ⟨rfl, hb12⟩
        have HB : Hid (Below w.heap.size w w12) := hb12
        clear hb12 h11
        go_wp2
        go_ret
        exact ⟨rfl, HB.out⟩
    · have hp0 : (0 : Int) < (s.size : Int) := by omega
      have ho1 : (s.size : Int) % 2 = 0 := by omega
      go_wp2_with fail
      generalize w4.alloc (.cells #[.string nm, .func (.func 19) #[] #[.pointer (some ⟨L, 0, .none⟩), .pointer (some ⟨F, 0, .none⟩)], .func (.func 21) #[] #[.pointer (some ⟨F, 0, .none⟩)]] 31) = w5 at *
      have h5 := HL5.out
      rw [ho1]
      go_loopw [15, 16, 17] (fun okv wv iv wr => ∃ (j : Nat) (pre : List UInt8), okv = .bool true ∧ iv = .int .i64 (2 * j : Nat) ∧ 2 * j ≤ s.size ∧ Lib.Hx.Mid s.data.toList j pre ∧ wr.ownsRow w5.heap.size 5 1 wv j ((zs pre).map (Value.int .u8)) ∧ Below w5.heap.size w5 wr) (fun _ _ iv _ => s.size - (intOf iv).toNat)
      case atStart => exact ⟨0, [], by first | rfl | (simp only [Value.bool.injEq, beq_iff_eq]; exact ho1), rfl, by omega, Lib.Hx.mid_zero _, World.ownsRow_nil _ _ _ _, Below.refl _ _⟩
      case round =>
        obtain ⟨j, pre, rfl, rfl, hj, hM, hown, hbel⟩ := hrel
        by_cases hlt : 2 * j < s.size
        · have hlt1 : ((2 * j : Nat) : Int) + 1 < (s.size : Int) := by omega
          have hlt0 : ((2 * j : Nat) : Int) < (s.size : Int) := by omega
          have hd0 := Lib.data_getElem? s (2 * j) (by omega)
          have hd1 := Lib.data_getElem? s (2 * j + 1) (by omega)
          go_wp2_with fail
          refine (val_any _ (UInt8.toNat_lt _) wr).mono ?_
          rintro e w6 ⟨rfl, rfl⟩
          go_wp2_with fail
          refine (val_any _ (UInt8.toNat_lt _) w6).mono ?_
          rintro e w7 ⟨rfl, rfl⟩
          rw [valOf_byte, valOf_byte]
          generalize s[2 * j] = b0 at *
          generalize s[2 * j + 1] = b1 at *
          by_cases hv0 : 15 < Lib.Hx.v b0
          · have hempty : parse s.data.toList lim = none := parse_bad (Lib.Hx.mid_bad1 hM b0 b1 hd0 hd1 hv0)
            rw [if_pos hv0]
            generalize (if 15 < Lib.Hx.v b1 then ((0 : Nat), false) else (Lib.Hx.v b1, true)) = r
            obtain ⟨r1, r2⟩ := r
            have hz := h5.next hbel
            clear hd0 hd1 hM hown hbel HL5 h5
            have hbad : parse s.data.toList lim = none := hempty
            have cE1 := hz.cE1
            have HS : Hid (Calls Ybaf.prog 19 #[.pointer (some ⟨P, 0, .none⟩), .string s, .pointer (some ⟨L, 0, .none⟩), .pointer (some ⟨F, 0, .none⟩)] w7 fun e w' => ∃ t x, e = .returned (.iface t x) ∧ Lt w K P E L F C k 0 lim nm f (fun _ => lo) w') :=
              (set_none s lim te ve P L F w7 hbad (hE0 _ hz) (by omega) hz.cL).mono fun e w' ⟨t, x, he, hb⟩ => ⟨t, x, he, hz.next hb⟩
            clear hbad hz hE0
            go_wp2_with fail
            refine HS.out.mono ?_
            rintro e w7 ⟨t, x, rfl, h7⟩
            clear HS cE1
            have cK := h7.cK
            have cE2 := h7.cE2
            have cC : w7.cell? ⟨C, 0, .none⟩ = some (.int .i64 0) := h7.cC.cell (by omega)
            have cP : w7.cell? ⟨P, k + 1, .none⟩ = some (f (k + 1)) := h7.row.cell (by omega)
            have fvk := (h7.fv k hk).1
            have hPl := h7.row.lt
            have HEq : Hid (Calls Ybaf.prog 12 #[f (k + 1), .slice po lo.length co] w7 fun e w' => e = .returned (.bool true) ∧ w' = w7) := by
              have := equal_any (f (k + 1)) _ lo lo w7 fvk.bs (h7.bs HO.out)
              rwa [show (lo == lo) = true by simp] at this
            have HOt : Hid (Calls Ybaf.prog 13 #[.pointer (some ⟨P, 0, .none⟩), .int .i64 k, .slice po lo.length co] w7 fun e w' => e = .returned (.bool true) ∧ w' = w7) :=
              others_any P k _ _ _ lo w7 h7.fs hk (fun j hj hne => rfl) (h7.bs HO.out)
            have HTx : Hid (Calls Ybaf.prog 21 #[.pointer (some ⟨P, 0, .none⟩), .pointer (some ⟨F, 0, .none⟩)] w7 fun e w' => e = .returned (.string ⟨(Lib.Hx.encode lo).toArray⟩) ∧ Lt w K P E L F C k 1 lim nm f (fun _ => lo) w') :=
              text9 lo h7 (by omega) hk rfl (by omega)
            have HHx : Hid (∀ wx, Lt w K P E L F C k 1 lim nm f (fun _ => lo) wx → Calls Ybaf.prog 14 #[f (k + 1), .bool false] wx fun e w' => e = .returned (.string ⟨(Lib.Hx.encode lo).toArray⟩) ∧ Below w.heap.size w w') := fun wx hx =>
              (hex_any _ lo false wx (hx.fv k hk).1.bs hlo).mono fun e w' ⟨he, hb⟩ => ⟨he, (hx.next hb).below⟩
            clear h7 fvk
            generalize f (k + 1) = v at *
            generalize (⟨(Lib.Hx.encode lo).toArray⟩ : ByteArray) = S at *
            go_wp2_with fail
            refine (pick_any P k hk w7 hPl).mono ?_
            rintro e w8 ⟨rfl, rfl⟩
            go_wp2_with fail
            refine HEq.out.mono ?_
            rintro e w9 ⟨rfl, rfl⟩
            go_wp2_with fail
            refine HOt.out.mono ?_
            rintro e w10 ⟨rfl, rfl⟩
            go_wp2_with fail
            refine (pick_any P k hk w10 hPl).mono ?_
            rintro e w10' ⟨rfl, rfl⟩
            go_wp2_with fail
            refine HTx.out.mono ?_
            rintro e w11 ⟨rfl, h11⟩
            clear cK cE2 cP cC
            go_wp2_with fail
            refine (HHx.out _ h11).mono ?_
            rintro e w12 ⟨rfl, hb12⟩
            have HB : Hid (Below w.heap.size w w12) := hb12
            clear hb12 h11
            go_wp2
            go_ret
            exact ⟨rfl, HB.out⟩
          · by_cases hv1 : 15 < Lib.Hx.v b1
            · have hempty : parse s.data.toList lim = none := parse_bad (Lib.Hx.mid_bad2 hM b0 b1 hd0 hd1 hv0 hv1)
              rw [if_neg hv0, if_pos hv1]
              have hz := h5.next hbel
              clear hd0 hd1 hM hown hbel HL5 h5
              have hbad : parse s.data.toList lim = none := hempty
              have cE1 := hz.cE1
              have HS : Hid (Calls Ybaf.prog 19 #[.pointer (some ⟨P, 0, .none⟩), .string s, .pointer (some ⟨L, 0, .none⟩), .pointer (some ⟨F, 0, .none⟩)] w7 fun e w' => ∃ t x, e = .returned (.iface t x) ∧ Lt w K P E L F C k 0 lim nm f (fun _ => lo) w') :=
                (set_none s lim te ve P L F w7 hbad (hE0 _ hz) (by omega) hz.cL).mono fun e w' ⟨t, x, he, hb⟩ => ⟨t, x, he, hz.next hb⟩
              clear hbad hz hE0
              go_wp2_with fail
              refine HS.out.mono ?_
              rintro e w7 ⟨t, x, rfl, h7⟩
              clear HS cE1
              have cK := h7.cK
              have cE2 := h7.cE2
              have cC : w7.cell? ⟨C, 0, .none⟩ = some (.int .i64 0) := h7.cC.cell (by omega)
              have cP : w7.cell? ⟨P, k + 1, .none⟩ = some (f (k + 1)) := h7.row.cell (by omega)
              have fvk := (h7.fv k hk).1
              have hPl := h7.row.lt
              have HEq : Hid (Calls Ybaf.prog 12 #[f (k + 1), .slice po lo.length co] w7 fun e w' => e = .returned (.bool true) ∧ w' = w7) := by
                have := equal_any (f (k + 1)) _ lo lo w7 fvk.bs (h7.bs HO.out)
                rwa [show (lo == lo) = true by simp] at this
              have HOt : Hid (Calls Ybaf.prog 13 #[.pointer (some ⟨P, 0, .none⟩), .int .i64 k, .slice po lo.length co] w7 fun e w' => e = .returned (.bool true) ∧ w' = w7) :=
                others_any P k _ _ _ lo w7 h7.fs hk (fun j hj hne => rfl) (h7.bs HO.out)
              have HTx : Hid (Calls Ybaf.prog 21 #[.pointer (some ⟨P, 0, .none⟩), .pointer (some ⟨F, 0, .none⟩)] w7 fun e w' => e = .returned (.string ⟨(Lib.Hx.encode lo).toArray⟩) ∧ Lt w K P E L F C k 1 lim nm f (fun _ => lo) w') :=
                text9 lo h7 (by omega) hk rfl (by omega)
              have HHx : Hid (∀ wx, Lt w K P E L F C k 1 lim nm f (fun _ => lo) wx → Calls Ybaf.prog 14 #[f (k + 1), .bool false] wx fun e w' => e = .returned (.string ⟨(Lib.Hx.encode lo).toArray⟩) ∧ Below w.heap.size w w') := fun wx hx =>
                (hex_any _ lo false wx (hx.fv k hk).1.bs hlo).mono fun e w' ⟨he, hb⟩ => ⟨he, (hx.next hb).below⟩
              clear h7 fvk
              generalize f (k + 1) = v at *
              generalize (⟨(Lib.Hx.encode lo).toArray⟩ : ByteArray) = S at *
              go_wp2_with fail
              refine (pick_any P k hk w7 hPl).mono ?_
              rintro e w8 ⟨rfl, rfl⟩
              go_wp2_with fail
              refine HEq.out.mono ?_
              rintro e w9 ⟨rfl, rfl⟩
              go_wp2_with fail
              refine HOt.out.mono ?_
              rintro e w10 ⟨rfl, rfl⟩
              go_wp2_with fail
              refine (pick_any P k hk w10 hPl).mono ?_
              rintro e w10' ⟨rfl, rfl⟩
              go_wp2_with fail
              refine HTx.out.mono ?_
              rintro e w11 ⟨rfl, h11⟩
              clear cK cE2 cP cC
              go_wp2_with fail
              refine (HHx.out _ h11).mono ?_
              rintro e w12 ⟨rfl, hb12⟩
              have HB : Hid (Below w.heap.size w w12) := hb12
              clear hb12 h11
              go_wp2
              go_ret
              exact ⟨rfl, HB.out⟩
            · rw [if_neg hv0, if_neg hv1]
              have HM : Hid (Lib.Hx.Mid s.data.toList (j + 1) (pre ++ [UInt8.ofNat (Lib.Hx.v b0 * 16 + Lib.Hx.v b1)])) := Lib.Hx.mid_step hM b0 b1 hd0 hd1 hv0 hv1
              have HOR : Hid (bits BinOp.or IntKind.u8 ((Lib.Hx.v b0 : Int) * 16) (Lib.Hx.v b1 : Int) = ((UInt8.ofNat (Lib.Hx.v b0 * 16 + Lib.Hx.v b1)).toNat : Int)) := Lib.Hx.or_digits _ _ hv0 hv1
              have HOW : Hid (w7.ownsRow w5.heap.size 5 1 u16 j ((zs pre).map (Value.int .u8))) := hown
              have HBL : Hid (Below w5.heap.size w5 w7) := hbel
              clear hd0 hd1 hM hown hbel HL5 h5 hE0
              obtain ⟨i5, hi5, hz5, hs5, hb5⟩ := info_parts Ybaf.info5
              have g0 : (Lib.Hx.v b0 : Int) < 16 := by omega
              have g1 : (Lib.Hx.v b1 : Int) < 16 := by omega
              have hjm : j ≤ 512 := by omega
              go_wp2_with (at_builtin; go_loud (refine wpList_append_own _ rfl (.tmp 85) (.tmp 90) 22 rfl w5.heap.size 5 i5 (.int .u8 0) 1 1 Ybaf.underlying22 hi5 hz5 hs5 hb5 rfl (by decide) u16 j ((zs pre).map (Value.int .u8)) rfl ?hqo ⟨w7.heap.size, 0, none⟩ 1 1 [.int .u8 (bits BinOp.or IntKind.u8 ((Lib.Hx.v b0 : Int) * 16) (Lib.Hx.v b1 : Int))] rfl rfl ?qc2 ?qc3 ?qc4 ?qc5 ?qc6 ?_))
              case hqo => exact HOW.out.alloc _
              case qc2 =>
                intro q u hq
                cases q with
                | zero => simp at hq; subst hq; rw [Addr.add_lit]; go_simp
                | succ q => simp at hq
              case qc3 => intro u hu; simp at hu; subst hu; rfl
              case qc4 => unfold maxLen; omega
              case qc5 => omega
              case qc6 => have := HBL.out.size; simp; omega
              intro v' w8 hown' hgrow hnil
              have hown2 : w8.ownsRow w5.heap.size 5 1 v' (j + 1) ((zs (pre ++ [UInt8.ofNat (Lib.Hx.v b0 * 16 + Lib.Hx.v b1)])).map (Value.int .u8)) := by
                rw [HOR.out] at hown'
                have e : (zs (pre ++ [UInt8.ofNat (Lib.Hx.v b0 * 16 + Lib.Hx.v b1)])).map (Value.int .u8) = (zs pre).map (Value.int .u8) ++ [.int .u8 ((UInt8.ofNat (Lib.Hx.v b0 * 16 + Lib.Hx.v b1)).toNat : Int)] := by simp [zs]
                rw [e]; exact hown'
              have hbel2 : Below w5.heap.size w5 w8 := (HBL.out.alloc HBL.out.size _).grown hgrow (by have := HBL.out.size; simp; omega) (fun q hq => (HOW.out.lt q hq).1)
              have H8 : Hid (w8.ownsRow w5.heap.size 5 1 v' (j + 1) ((zs (pre ++ [UInt8.ofNat (Lib.Hx.v b0 * 16 + Lib.Hx.v b1)])).map (Value.int .u8)) ∧ Below w5.heap.size w5 w8) := ⟨hown2, hbel2⟩
              clear hown2 hbel2 hown' hgrow hnil HOW HBL HOR
              go_wp2
              go_roundw
              case rel =>
                exact ⟨j + 1, _, rfl, by go_num, by omega, HM.out, H8.out.1, H8.out.2⟩
              case measure => simp [RowKit.intOf]; omega
        · have hje : s.size = 2 * j := by omega
          have hdec := Lib.Hx.mid_end hM (by rw [← Lib.size_eq]; exact hje)
          have hlj : pre.length = j := hM.1
          have hne : ¬ s.data.toList = [] := fun e => by have h0 : s.data.toList.length = s.size := (Lib.size_eq s).symm; rw [e] at h0; have h1 : 0 = s.size := h0; omega
          have hge : ¬ ((2 * j : Nat) : Int) + 1 < (s.size : Int) := by omega
          have hge1 : (s.size : Int) ≤ ((2 * j : Nat) : Int) + 1 := by omega
          have hpar : parse s.data.toList lim = if lim < (j : Int) then none else some pre := by
            unfold parse
            rw [if_neg hne, hdec]
            simp only [hlj]
          have hfv : FV wr wr.heap.size u16 pre := of_owns (by rw [hlj]; exact hown) (.inl (Nat.le_refl _))
          have hbs := hfv.bs
          obtain ⟨pw, cw, rfl, hbw⟩ := hbs
          rw [hlj] at hbw ⊢
          by_cases hlim : lim < (j : Int)
          · rw [if_pos hlim] at hpar
            have hz := h5.next hbel
            clear HL5 h5 hM hown hbel hdec hfv hbw
            have hbad : parse s.data.toList lim = none := hpar
            have cE1 := hz.cE1
            have HS : Hid (Calls Ybaf.prog 19 #[.pointer (some ⟨P, 0, .none⟩), .string s, .pointer (some ⟨L, 0, .none⟩), .pointer (some ⟨F, 0, .none⟩)] wr fun e w' => ∃ t x, e = .returned (.iface t x) ∧ Lt w K P E L F C k 0 lim nm f (fun _ => lo) w') :=
              (set_none s lim te ve P L F wr hbad (hE0 _ hz) (by omega) hz.cL).mono fun e w' ⟨t, x, he, hb⟩ => ⟨t, x, he, hz.next hb⟩
            clear hbad hz hE0
            go_wp2_with fail
            refine HS.out.mono ?_
            rintro e w7 ⟨t, x, rfl, h7⟩
            clear HS cE1
            have cK := h7.cK
            have cE2 := h7.cE2
            have cC : w7.cell? ⟨C, 0, .none⟩ = some (.int .i64 0) := h7.cC.cell (by omega)
            have cP : w7.cell? ⟨P, k + 1, .none⟩ = some (f (k + 1)) := h7.row.cell (by omega)
            have fvk := (h7.fv k hk).1
            have hPl := h7.row.lt
            have HEq : Hid (Calls Ybaf.prog 12 #[f (k + 1), .slice po lo.length co] w7 fun e w' => e = .returned (.bool true) ∧ w' = w7) := by
              have := equal_any (f (k + 1)) _ lo lo w7 fvk.bs (h7.bs HO.out)
              rwa [show (lo == lo) = true by simp] at this
            have HOt : Hid (Calls Ybaf.prog 13 #[.pointer (some ⟨P, 0, .none⟩), .int .i64 k, .slice po lo.length co] w7 fun e w' => e = .returned (.bool true) ∧ w' = w7) :=
              others_any P k _ _ _ lo w7 h7.fs hk (fun j hj hne => rfl) (h7.bs HO.out)
            have HTx : Hid (Calls Ybaf.prog 21 #[.pointer (some ⟨P, 0, .none⟩), .pointer (some ⟨F, 0, .none⟩)] w7 fun e w' => e = .returned (.string ⟨(Lib.Hx.encode lo).toArray⟩) ∧ Lt w K P E L F C k 1 lim nm f (fun _ => lo) w') :=
              text9 lo h7 (by omega) hk rfl (by omega)
            have HHx : Hid (∀ wx, Lt w K P E L F C k 1 lim nm f (fun _ => lo) wx → Calls Ybaf.prog 14 #[f (k + 1), .bool false] wx fun e w' => e = .returned (.string ⟨(Lib.Hx.encode lo).toArray⟩) ∧ Below w.heap.size w w') := fun wx hx =>
              (hex_any _ lo false wx (hx.fv k hk).1.bs hlo).mono fun e w' ⟨he, hb⟩ => ⟨he, (hx.next hb).below⟩
            clear h7 fvk
            generalize f (k + 1) = v at *
            generalize (⟨(Lib.Hx.encode lo).toArray⟩ : ByteArray) = S at *
            go_wp2_with fail
            refine (pick_any P k hk w7 hPl).mono ?_
            rintro e w8 ⟨rfl, rfl⟩
            go_wp2_with fail
            refine HEq.out.mono ?_
            rintro e w9 ⟨rfl, rfl⟩
            go_wp2_with fail
            refine HOt.out.mono ?_
            rintro e w10 ⟨rfl, rfl⟩
            go_wp2_with fail
            refine (pick_any P k hk w10 hPl).mono ?_
            rintro e w10' ⟨rfl, rfl⟩
            go_wp2_with fail
            refine HTx.out.mono ?_
            rintro e w11 ⟨rfl, h11⟩
            clear cK cE2 cP cC
            go_wp2_with fail
            refine (HHx.out _ h11).mono ?_
            rintro e w12 ⟨rfl, hb12⟩
            have HB : Hid (Below w.heap.size w w12) := hb12
            clear hb12 h11
            go_wp2
            go_ret
            exact ⟨rfl, HB.out⟩
          · rw [if_neg hlim] at hpar
            have hlim2 : decide (lim < (j : Int)) = false := decide_eq_false hlim
            have hz := h5.next hbel
            have cE1 := hz.cE1
            have HS : Hid (Calls Ybaf.prog 19 #[.pointer (some ⟨P, 0, .none⟩), .string s, .pointer (some ⟨L, 0, .none⟩), .pointer (some ⟨F, 0, .none⟩)] wr fun e w' => e = .returned .nilIface ∧ ∃ v, (Lt w K P E L F C k (0 + 1) lim nm (fun j => if j = k + 1 then v else f j) (fun i => if i = k then pre else lo) w' ∧ Bs w' (.slice pw j cw) pre)) :=
              (set_some9 s te ve pre hz (by omega) hk hpar (hE0 _ hz) (by omega)).mono fun e w' ⟨he, v, hl, hfr⟩ => ⟨he, v, hl, by
                have := bs_kept (w' := w') (by rw [hlj]; exact hown) (fun b hb hbs => hfr b hbs (by have := h5.row.lt; omega) (by have := h5.cC.lt; omega))
                rwa [hlj] at this⟩
            clear hpar hz hE0 h5 HL5 hM hown hbel hdec hfv hbw
            go_wp2_with fail
            refine HS.out.mono ?_
            rintro e w7 ⟨rfl, v, h7, hw7⟩
            clear HS cE1
            have HW7 : Hid (Bs w7 (.slice pw j cw) pre) := hw7
            clear hw7
            have cK := h7.cK
            have cE2 := h7.cE2
            have cC : w7.cell? ⟨C, 0, .none⟩ = some (.int .i64 1) := h7.cC.cell (by omega)
            have cP : w7.cell? ⟨P, k + 1, .none⟩ = some v := by rw [h7.row.cell (by omega), if_pos rfl]
            have fvk := (h7.fv k hk).1
            simp only [if_pos] at fvk
            have hPl := h7.row.lt
            have HEq : Hid (Calls Ybaf.prog 12 #[v, .slice pw j cw] w7 fun e w' => e = .returned (.bool true) ∧ w' = w7) := by
              have := equal_any v _ pre pre w7 fvk.bs HW7.out
              rwa [show (pre == pre) = true by simp] at this
            have HOt : Hid (Calls Ybaf.prog 13 #[.pointer (some ⟨P, 0, .none⟩), .int .i64 k, .slice po lo.length co] w7 fun e w' => e = .returned (.bool true) ∧ w' = w7) :=
              others_any P k _ _ _ lo w7 h7.fs hk (fun j hj hne => if_neg hne) (h7.bs HO.out)
            have HTx : Hid (Calls Ybaf.prog 21 #[.pointer (some ⟨P, 0, .none⟩), .pointer (some ⟨F, 0, .none⟩)] w7 fun e w' => e = .returned (.string ⟨(Lib.Hx.encode pre).toArray⟩) ∧ Lt w K P E L F C k (0 + 1 + 1) lim nm (fun j => if j = k + 1 then v else f j) (fun i => if i = k then pre else lo) w') :=
              text9 pre h7 (by omega) hk (if_pos rfl) (by rw [hlj]; omega)
            have HHx : Hid (∀ wx, Lt w K P E L F C k (0 + 1 + 1) lim nm (fun j => if j = k + 1 then v else f j) (fun i => if i = k then pre else lo) wx → Calls Ybaf.prog 14 #[v, .bool false] wx fun e w' => e = .returned (.string ⟨(Lib.Hx.encode pre).toArray⟩) ∧ Below w.heap.size w w') := fun wx hx =>
              (hex_any _ pre false wx (by have := (hx.fv k hk).1.bs; simpa only [if_pos] using this) (by rw [hlj]; omega)).mono fun e w' ⟨he, hb⟩ => ⟨he, (hx.next hb).below⟩
            clear h7 fvk HW7
            generalize (⟨(Lib.Hx.encode pre).toArray⟩ : ByteArray) = S at *
            go_wp2_with fail
            refine (pick_any P k hk w7 hPl).mono ?_
            rintro e w8 ⟨rfl, rfl⟩
            go_wp2_with fail
            refine HEq.out.mono ?_
            rintro e w9 ⟨rfl, rfl⟩
            go_wp2_with fail
            refine HOt.out.mono ?_
            rintro e w10 ⟨rfl, rfl⟩
            go_wp2_with fail
            refine (pick_any P k hk w10 hPl).mono ?_
            rintro e w10' ⟨rfl, rfl⟩
            go_wp2_with fail
            refine HTx.out.mono ?_
            rintro e w11 ⟨rfl, h11⟩
            clear cK cE2 cP cC
            go_wp2_with fail
            refine (HHx.out _ h11).mono ?_
            rintro e w12 ⟨rfl, hb12⟩
            have HB : Hid (Below w.heap.size w w12) := hb12
            clear hb12 h11
            go_wp2
            go_ret
            exact ⟨rfl, HB.out⟩
end Go.Proofs.YbulkbdgoFmt
