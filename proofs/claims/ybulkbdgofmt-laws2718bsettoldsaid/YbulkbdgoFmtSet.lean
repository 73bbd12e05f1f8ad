import Derived.Test.YbulkbdgoFmtState
namespace Go.Proofs.YbulkbdgoFmt
open Go.RowKit Go.Deep
set_option linter.unusedVariables false

set_option maxHeartbeats 1600000 in
theorem fresh_any (v : Value) (l : List UInt8) (w : World) (h : Bs w v l) (hl : l.length ≤ 512) :
    Calls Ybaf.prog 7 #[v] w fun e w' => ∃ v0 v1 v2 v3 v4, e = .returned (.agg #[.string ⟨#[98]⟩, v0, v1, v2, v3, v4, .int .u8 0, .int .u8 0, .int .u8 0, .int .u8 0, .int .u8 0, .int .u8 0, .int .u8 0, .int .u8 0, .int .u8 0, .int .u8 0, .int .u8 0, .int .u8 0, .int .u8 0, .int .u8 0, .int .u8 0, .int .u8 0]) ∧ Below w.heap.size w w' ∧
      ∀ P, w'.heap.size ≤ P ∨ P < w.heap.size → FV w' P v0 l ∧ FV w' P v1 l ∧ FV w' P v2 l ∧ FV w' P v3 l ∧ FV w' P v4 l := by
  go_enter Ybaf.func7, Ybaf.ntmps7
  go_wp2_with fail
  generalize hZ : #[Value.string { data := #[] }, Value.slice none 0 0, Value.slice none 0 0, Value.slice none 0 0, Value.slice none 0 0, Value.slice none 0 0, Value.int IntKind.u8 0, Value.int IntKind.u8 0, Value.int IntKind.u8 0, Value.int IntKind.u8 0, Value.int IntKind.u8 0, Value.int IntKind.u8 0, Value.int IntKind.u8 0, Value.int IntKind.u8 0, Value.int IntKind.u8 0, Value.int IntKind.u8 0, Value.int IntKind.u8 0, Value.int IntKind.u8 0, Value.int IntKind.u8 0, Value.int IntKind.u8 0, Value.int IntKind.u8 0, Value.int IntKind.u8 0] = Z
  have hb0 : Below w.heap.size w (w.alloc (.cells Z 26)) := (Below.refl _ _).alloc (Nat.le_refl _) _
  have HB0 : Hid (Below w.heap.size w (w.alloc (.cells Z 26))) := hb0
  have hrow : (w.alloc (.cells Z 26)).rowIs w.heap.size 26 22 (fun i => Z[i]!) := by
    have := World.rowIs_alloc w Z 26 (fun i => Z[i]!) (fun o ho => by simp [ho])
    rwa [show Z.size = 22 by rw [← hZ]; rfl] at this
  clear hZ
  obtain ⟨g, hrow⟩ : ∃ g : Nat → Value, (w.alloc (.cells Z 26)).rowIs w.heap.size 26 22 g := ⟨_, hrow⟩
  have hsz0 : (w.alloc (.cells Z 26)).heap.size = w.heap.size + 1 := by simp
  generalize hB : w.heap.size = B at *
  generalize w.alloc (.cells Z 26) = w0 at *
  clear hb0
  have h0 := h.below (by rw [hB]; exact HB0.out)
  refine (clone_any v l w0 h0 hl).mono ?_
  rintro e w1 ⟨v0, rfl, hb1, hf1⟩
  obtain ⟨p0, n0, c0, rfl⟩ := (hf1 _ (.inl (Nat.le_refl _))).slice
  have hrow1 := hrow.of_block (hb1.block _ hrow.lt)
  have h1 := h0.below hb1
  go_wp2_with fail
  refine (clone_any v l w1 h1 hl).mono ?_
  rintro e w2 ⟨v1, rfl, hb2, hf2⟩
  obtain ⟨p1, n1, c1, rfl⟩ := (hf2 _ (.inl (Nat.le_refl _))).slice
  have hrow2 := hrow1.of_block (hb2.block _ hrow1.lt)
  have h2 := h1.below hb2
  go_wp2_with fail
  refine (clone_any v l w2 h2 hl).mono ?_
  rintro e w3 ⟨v2, rfl, hb3, hf3⟩
  obtain ⟨p2, n2, c2, rfl⟩ := (hf3 _ (.inl (Nat.le_refl _))).slice
  have hrow3 := hrow2.of_block (hb3.block _ hrow2.lt)
  have h3 := h2.below hb3
  go_wp2_with fail
  refine (clone_any v l w3 h3 hl).mono ?_
  rintro e w4 ⟨v3, rfl, hb4, hf4⟩
  obtain ⟨p3, n3, c3, rfl⟩ := (hf4 _ (.inl (Nat.le_refl _))).slice
  have hrow4 := hrow3.of_block (hb4.block _ hrow3.lt)
  have h4 := h3.below hb4
  go_wp2_with fail
  refine (clone_any v l w4 h4 hl).mono ?_
  rintro e w5 ⟨v4, rfl, hb5, hf5⟩
  obtain ⟨p4, n4, c4, rfl⟩ := (hf5 _ (.inl (Nat.le_refl _))).slice
  have hrow5 := hrow4.of_block (hb5.block _ hrow4.lt)
  obtain ⟨old, hold, hsold⟩ := row_heap hrow5
  have HR : Hid (w5.rowIs B 26 22 g) := hrow5
  have HF : Hid (Below B w w5 ∧ ∀ Q, (w5.heap.size ≤ Q ∨ Q < B + 1) → FV w5 Q (.slice p0 n0 c0) l ∧ FV w5 Q (.slice p1 n1 c1) l ∧ FV w5 Q (.slice p2 n2 c2) l ∧ FV w5 Q (.slice p3 n3 c3) l ∧ FV w5 Q (.slice p4 n4 c4) l) := by
    have s1 := hb1.size
    have s2 := hb2.size
    have s3 := hb3.size
    have s4 := hb4.size
    have s5 := hb5.size
    have s0 := hrow.lt
    have hB0 : w0.heap.size = B + 1 := hsz0
    refine ⟨((((HB0.out.trans (hb1.mono (by omega))).trans (hb2.mono (by omega))).trans (hb3.mono (by omega))).trans (hb4.mono (by omega))).trans (hb5.mono (by omega)), fun Q hQ => ?_⟩
    exact ⟨((((hf1 Q (by omega)).below hb2).below hb3).below hb4).below hb5, (((hf2 Q (by omega)).below hb3).below hb4).below hb5, ((hf3 Q (by omega)).below hb4).below hb5, (hf4 Q (by omega)).below hb5, hf5 Q (by omega)⟩
  clear hrow hrow1 hrow2 hrow3 hrow4 hrow5 hb1 hb2 hb3 hb4 hb5 hf1 hf2 hf3 hf4 hf5 h h0 h1 h2 h3 h4 HB0 hsz0
  have hone := pC_one p0 p1 p2 p3 p4 n0 n1 n2 n3 n4 c0 c1 c2 c3 c4
  have HO : Hid ((pC (.slice p0 n0 c0) (.slice p1 n1 c1) (.slice p2 n2 c2) (.slice p3 n3 c3) (.slice p4 n4 c4)).all (·.oneCell') = true) := hone
  have HH : Hid (w5.heap[B]? = some (.cells old 26 (0, 0)) ∧ old.size = 22) := ⟨hold, hsold⟩
  clear hone hold hsold
  go_wp2_with (refine wpList_store_row rfl 26 (.tmp 2) (.tmp 13) rfl B (pC (.slice p0 n0 c0) (.slice p1 n1 c1) (.slice p2 n2 c2) (.slice p3 n3 c3) (.slice p4 n4 c4)) rfl rfl 26 old HH.out.1 info26 HH.out.2 HO.out ?_)
  have hr6 := laid26 HR.out (.slice p0 n0 c0) (.slice p1 n1 c1) (.slice p2 n2 c2) (.slice p3 n3 c3) (.slice p4 n4 c4)
  have hb6 := below_setRow HF.out.1 (Nat.le_refl B) (pC (.slice p0 n0 c0) (.slice p1 n1 c1) (.slice p2 n2 c2) (.slice p3 n3 c3) (.slice p4 n4 c4))
  have hv6 : ∀ Q, ((w5.setRow B (pC (.slice p0 n0 c0) (.slice p1 n1 c1) (.slice p2 n2 c2) (.slice p3 n3 c3) (.slice p4 n4 c4))).heap.size ≤ Q ∨ Q < B) → FV (w5.setRow B (pC (.slice p0 n0 c0) (.slice p1 n1 c1) (.slice p2 n2 c2) (.slice p3 n3 c3) (.slice p4 n4 c4))) Q (.slice p0 n0 c0) l ∧ FV (w5.setRow B (pC (.slice p0 n0 c0) (.slice p1 n1 c1) (.slice p2 n2 c2) (.slice p3 n3 c3) (.slice p4 n4 c4))) Q (.slice p1 n1 c1) l ∧ FV (w5.setRow B (pC (.slice p0 n0 c0) (.slice p1 n1 c1) (.slice p2 n2 c2) (.slice p3 n3 c3) (.slice p4 n4 c4))) Q (.slice p2 n2 c2) l ∧ FV (w5.setRow B (pC (.slice p0 n0 c0) (.slice p1 n1 c1) (.slice p2 n2 c2) (.slice p3 n3 c3) (.slice p4 n4 c4))) Q (.slice p3 n3 c3) l ∧ FV (w5.setRow B (pC (.slice p0 n0 c0) (.slice p1 n1 c1) (.slice p2 n2 c2) (.slice p3 n3 c3) (.slice p4 n4 c4))) Q (.slice p4 n4 c4) l := fun Q hQ => by
    obtain ⟨y0, y1, y2, y3, y4⟩ := HF.out.2 B (by omega)
    obtain ⟨x0, x1, x2, x3, x4⟩ := HF.out.2 Q (by rw [setRow_size] at hQ; omega)
    exact ⟨y0.setRow x0 _, y1.setRow x1 _, y2.setRow x2 _, y3.setRow x3 _, y4.setRow x4 _⟩
  have hl6 := run_loadVar_row (P := Ybaf.prog) (w5.setRow B (pC (.slice p0 n0 c0) (.slice p1 n1 c1) (.slice p2 n2 c2) (.slice p3 n3 c3) (.slice p4 n4 c4))) B 26 26 _ (0, 0) _ (setRow_heap w5 B old (pC (.slice p0 n0 c0) (.slice p1 n1 c1) (.slice p2 n2 c2) (.slice p3 n3 c3) (.slice p4 n4 c4)) 26 (0, 0) HH.out.1) Ybaf.underlying26 rfl info26
  clear HF HR HH HO
  generalize w5.setRow B (pC (.slice p0 n0 c0) (.slice p1 n1 c1) (.slice p2 n2 c2) (.slice p3 n3 c3) (.slice p4 n4 c4)) = w6 at *
  refine bodyPost_ret (v := .agg (pC (.slice p0 n0 c0) (.slice p1 n1 c1) (.slice p2 n2 c2) (.slice p3 n3 c3) (.slice p4 n4 c4))) ?_ rfl ⟨_, _, _, _, _, rfl, by rw [hB]; exact hb6, by rw [hB]; exact hv6⟩
  rw [results_cell1 Ybaf.results7]
  exact hl6

theorem octets_any (nm : ByteArray) (lim : Int) (q : FuncId) (caps : Array Value) (w : World) :
    Calls Ybaf.prog 8 #[.string nm, .int .i64 lim, .func (.func q) #[] caps] w fun e w' => ∃ L F, e = .returned (.agg #[.string nm, .func (.func 19) #[] #[.pointer (some ⟨L, 0, .none⟩), .pointer (some ⟨F, 0, .none⟩)], .func (.func 21) #[] #[.pointer (some ⟨F, 0, .none⟩)]]) ∧ Below w.heap.size w w' ∧
      w.heap.size ≤ L ∧ w.heap.size ≤ F ∧ w'.cell? ⟨L, 0, .none⟩ = some (.int .i64 lim) ∧ w'.cell? ⟨F, 0, .none⟩ = some (.func (.func q) #[] caps) := by
  have hmf : ∀ (fn : Fn) (first cap : Array Value) (w : World), (Instr.makeFunc fn first cap).run Ybaf.prog w = .ok (.func fn first cap) w := fun _ _ _ _ => rfl
  go_enter Ybaf.func8, Ybaf.ntmps8
  go_wp2
  refine bodyPost_ret (v := .agg #[.string nm, .func (.func 19) #[] #[.pointer (some ⟨w.heap.size, 0, .none⟩), .pointer (some ⟨w.heap.size + 1, 0, .none⟩)], .func (.func 21) #[] #[.pointer (some ⟨w.heap.size + 1, 0, .none⟩)]]) (by simp [results, Ybaf.results8, go_sem]) rfl ?_
  refine ⟨_, _, rfl, (((Below.refl _ _).alloc (Nat.le_refl _) _).alloc (by simp) _).alloc (by simp; omega) _, by omega, by omega, ?_, ?_⟩
  · go_simp
  · go_simp

/-- what ParseOctets answers -/
def parse (s : List UInt8) (lim : Int) : Option (List UInt8) :=
  if s = [] then none else match Lib.Hx.decode s with
    | (l, .ok) => if lim < (l.length : Int) then none else some l
    | _ => none

theorem zs_map (l : List UInt8) : (l.map fun b => Value.int .u8 (b.toNat : Int)) = (zs l).map (Value.int .u8) := by
  simp [zs]

set_option maxHeartbeats 800000 in
theorem parse_some (s : ByteArray) (lim : Int) (te : TypeId) (ve : Value) (w : World) (l : List UInt8) (hp : parse s.data.toList lim = some l) (hE : w.cell? ⟨0, 0, .none⟩ = some (.iface te ve)) (hs : s.size ≤ 4096) :
    Calls Ybaf.prog 20 #[.string s, .int .i64 lim] w fun e w' => ∃ v, e = .returned (.tuple #[v, .nilIface]) ∧ Below w.heap.size w w' ∧ ∀ P, w'.heap.size ≤ P ∨ P < w.heap.size → FV w' P v l := by
  go_enter Ybaf.func20, Ybaf.ntmps20
  go_wp2_with fail
  refine (Ybaf.hex_DecodeString_owns s w _ hE (by omega)).mono ?_
  rintro e w2 ⟨v, rfl, hv, hb⟩
  rw [zs_map] at hv
  have hf : ∀ P, w2.heap.size ≤ P ∨ P < w.heap.size → FV w2 P v (Lib.Hx.decode s.data.toList).1 := fun P hP => of_owns hv hP
  obtain ⟨p, n, c, rfl⟩ := (hf _ (.inl (Nat.le_refl _))).slice
  have hn : n = (Lib.Hx.decode s.data.toList).1.length := by
    rcases hf _ (.inl (Nat.le_refl _)) with ⟨h, h2⟩ | ⟨b, c', h, _⟩
    · cases h; rw [h2]; rfl
    · cases h; rfl
  clear hv hE
  unfold parse at hp
  by_cases hs0 : s.data.toList = []
  · rw [if_pos hs0] at hp; cases hp
  · have hs1 : ¬ s.toList = [] := by rw [ByteArray.toList_eq]; exact hs0
    have hs2 : s.toList.isEmpty = false := by cases h : s.toList with | nil => exact absurd h hs1 | cons a t => rfl
    rw [if_neg hs0] at hp
    cases hd : Lib.Hx.decode s.data.toList with
    | mk l' o =>
      rw [hd] at hf hn hp
      cases o with
      | bad q => simp at hp
      | odd => simp at hp
      | ok =>
        by_cases hlim : lim < (l'.length : Int)
        · simp [hlim] at hp
        · simp only [if_neg hlim, Option.some.injEq] at hp
          simp only at hn hf
          simp only [Lib.Hx.errVal]
          have HF : Hid (∀ P, w2.heap.size ≤ P ∨ P < w.heap.size → FV w2 P (.slice p n c) l) := by rw [← hp]; exact hf
          have HB : Hid (Below w.heap.size w w2) := hb
          rw [← hn] at hlim
          clear hf hb hs hn hp hd hs0
          go_wp2
          go_ret2
          exact ⟨_, rfl, HB.out, HF.out⟩

set_option maxHeartbeats 1600000 in
theorem parse_none (s : ByteArray) (lim : Int) (te : TypeId) (ve : Value) (w : World) (hp : parse s.data.toList lim = none) (hE : w.cell? ⟨0, 0, .none⟩ = some (.iface te ve)) (hs : s.size ≤ 4096) :
    Calls Ybaf.prog 20 #[.string s, .int .i64 lim] w fun e w' => ∃ t x, e = .returned (.tuple #[.slice .none 0 0, .iface t x]) ∧ Below w.heap.size w w' := by
  go_enter Ybaf.func20, Ybaf.ntmps20
  go_wp2_with fail
  refine (Ybaf.hex_DecodeString_owns s w _ hE (by omega)).mono ?_
  rintro e w2 ⟨v, rfl, hv, hb⟩
  rw [zs_map] at hv
  have hf : ∀ P, w2.heap.size ≤ P ∨ P < w.heap.size → FV w2 P v (Lib.Hx.decode s.data.toList).1 := fun P hP => of_owns hv hP
  obtain ⟨p, n, c, rfl⟩ := (hf _ (.inl (Nat.le_refl _))).slice
  have hn : n = (Lib.Hx.decode s.data.toList).1.length := by
    rcases hf _ (.inl (Nat.le_refl _)) with ⟨h, h2⟩ | ⟨b, c', h, _⟩
    · cases h; rw [h2]; rfl
    · cases h; rfl
  clear hv hE
  unfold parse at hp
  by_cases hs0 : s.data.toList = []
  · have hs0' : s = ⟨#[]⟩ := by
      cases s with
      | mk d => cases d with
        | mk l => simp at hs0; subst hs0; rfl
    clear hp hs0 hf hn hs
    subst hs0'
    go_wp2_with fail
    refine (new_any _ w2).mono ?_
    rintro e w3 ⟨b, rfl, hb3⟩
    have HB : Hid (Below w.heap.size w w3) := hb.trans (hb3.mono hb.size)
    clear hb hb3
    go_wp2
    go_ret2
    exact ⟨_, _, rfl, HB.out⟩
  · have hs1 : ¬ s.toList = [] := by rw [ByteArray.toList_eq]; exact hs0
    have hs2 : s.toList.isEmpty = false := by cases h : s.toList with | nil => exact absurd h hs1 | cons a t => rfl
    rw [if_neg hs0] at hp
    cases hd : Lib.Hx.decode s.data.toList with
    | mk l' o =>
      rw [hd] at hf hn hp
      cases o with
      | bad q =>
        clear hp hf hn hs hd hs0
        simp only [Lib.Hx.errVal]
        go_wp2_with fail
        refine (new_any _ w2).mono ?_
        rintro e w3 ⟨b, rfl, hb3⟩
        have HB : Hid (Below w.heap.size w w3) := hb.trans (hb3.mono hb.size)
        clear hb hb3
        go_wp2
        go_ret2
        exact ⟨_, _, rfl, HB.out⟩
      | odd =>
        clear hp hf hn hs hd hs0
        simp only [Lib.Hx.errVal]
        go_wp2_with fail
        refine (new_any _ w2).mono ?_
        rintro e w3 ⟨b, rfl, hb3⟩
        have HB : Hid (Below w.heap.size w w3) := hb.trans (hb3.mono hb.size)
        clear hb hb3
        go_wp2
        go_ret2
        exact ⟨_, _, rfl, HB.out⟩
      | ok =>
        by_cases hlim : lim < (l'.length : Int)
        · simp only at hn
          simp only [Lib.Hx.errVal]
          rw [← hn] at hlim
          clear hf hs hn hp hd hs0
          go_wp2_with fail
          refine (errorf_any lim w2.heap.size (w2.alloc (.cells #[.iface 3 (.int .i64 lim)] 20)) (by go_simp)).mono ?_
          rintro e w3 ⟨b, rfl, hb3⟩
          have HB3 : Hid (Below w.heap.size w w3) := (hb.alloc hb.size _).trans (hb3.mono (by simp; have := hb.size; omega))
          clear hb3 hb
          go_wp2
          go_ret2
          exact ⟨_, _, rfl, HB3.out⟩
        · simp [hlim] at hp

end Go.Proofs.YbulkbdgoFmt
