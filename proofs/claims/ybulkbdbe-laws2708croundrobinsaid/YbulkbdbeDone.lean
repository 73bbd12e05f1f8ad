import Derived.Test.YbulkbdbeOpen
namespace Go.Proofs.Ybulkbdbe
open Go.RowKit Go.Deep
set_option linter.unusedVariables false

/-- the table, as the loops leave it -/
def cfOf (np : Nat) (U : Nat → Nat) (es : Nat → En) (BL T PR pg : Nat) (tv : Value) : Cf :=
  ⟨np, U, fun i => (es i).nl, fun i => (es i).lU, fun i => (es i).k, fun i => (es i).E, BL, T, PR, pg, fun i => (es i).L, fun i => (es i).ug, fun i => (es i).C, tv, fun i => (es i).uv⟩

def mdOf (es : Nat → En) (RF TU LU K mg : Nat) (pv : Value) : Md :=
  ⟨RF, TU, LU, K, mg, fun i => (es i).R, fun i => (es i).Tn, fun i => (es i).RC, fun i => (es i).mug, pv, fun i => (es i).um⟩

/-- the world behind the loops -/
def endW (w : World) (BL T D : Nat) : World :=
  (((w.setCell ⟨BL, 9, none⟩ (.pointer (some ⟨T, 0, none⟩))).alloc (.cells #[.int .i64 0] 3)).alloc (.cells #[.slice none 0 0] 54)).alloc (.cells #[.func (.func 19) #[] #[.pointer (some ⟨w.heap.size + 1, 0, none⟩), .pointer (some ⟨D, 0, none⟩), .pointer (some ⟨w.heap.size, 0, none⟩)]] 73)

section
variable {w5 w : World} {T PR RF TU LU HB np : Nat} {es : Nat → En} {U : Nat → Nat} {tv pv : Value} {D X1 G1 BL pg mg : Nat}

theorem mu_low (h : P1 w5 w T PR RF TU LU HB np np np np es U tv pv) {b : Nat} (hb : b < HB) (h1 : b ≠ X1) (h2 : b ≠ G1) : ¬ Mu (cfOf np U es BL T PR pg tv) (mdOf es RF TU LU (w.heap.size + 2) mg pv) X1 G1 w.heap.size (w.heap.size + 1) (w.heap.size + 3) b := by
  have hs := h.hb
  rintro (e | e | e | e | e | ⟨i, hi, e⟩)
  · omega
  · exact h1 e
  · exact h2 e
  · omega
  · omega
  · have a1 := h.iv i hi
    have a2 := (h.en i hi).hL.1
    have a3 := (h.en i hi).hT.1
    rcases e with e | e
    · have e' : b = (es i).L := e
      omega
    · have e' : b = (es i).Tn := e
      omega

theorem mu_ent (h : P1 w5 w T PR RF TU LU HB np np np np es U tv pv) (hx : X1 < HB ∧ G1 < HB) {b i : Nat} (hi : i < np) (hb : (es i).has b) (h1 : b ≠ (es i).L) (h2 : b ≠ (es i).Tn) : ¬ Mu (cfOf np U es BL T PR pg tv) (mdOf es RF TU LU (w.heap.size + 2) mg pv) X1 G1 w.heap.size (w.heap.size + 1) (w.heap.size + 3) b := by
  have hs := h.hb
  have c1 := h.iv i hi
  have c2 := (h.en i hi).hi
  have c3 := hb.1
  have c4 := hb.2
  rintro (e | e | e | e | e | ⟨q, hq, e⟩)
  · omega
  · omega
  · omega
  · omega
  · omega
  · have a2 := (h.en q hq).hL
    have a3 := (h.en q hq).hT
    have hne : q ≠ i := by
      rintro rfl
      rcases e with e | e
      · exact h1 e
      · exact h2 e
    have d1 := a2.1
    have d2 := a2.2
    have d3 := a3.1
    have d4 := a3.2
    rcases Nat.lt_or_gt_of_ne hne with hc | hc
    · have := h.ap q i hc hi
      rcases e with e | e
      · have e' : b = (es q).L := e
        omega
      · have e' : b = (es q).Tn := e
        omega
    · have := h.ap i q hc hq
      rcases e with e | e
      · have e' : b = (es q).L := e
        omega
      · have e' : b = (es q).Tn := e
        omega

theorem mu_own (h : P1 w5 w T PR RF TU LU HB np np np np es U tv pv) (hx : X1 < HB ∧ G1 < HB) {b : Nat} (h1 : HB ≤ b) (h2 : b < w.heap.size) (hn : ∀ q, q < np → ¬ (es q).has b) : ¬ Mu (cfOf np U es BL T PR pg tv) (mdOf es RF TU LU (w.heap.size + 2) mg pv) X1 G1 w.heap.size (w.heap.size + 1) (w.heap.size + 3) b := by
  rintro (e | e | e | e | e | ⟨q, hq, e⟩)
  · omega
  · omega
  · omega
  · omega
  · omega
  · rcases e with e | e
    · have e' : b = (es q).L := e
      exact hn q hq (e' ▸ (h.en q hq).hL)
    · have e' : b = (es q).Tn := e
      exact hn q hq (e' ▸ (h.en q hq).hT)

theorem P1.apart (h : P1 w5 w T PR RF TU LU HB np np np np es U tv pv) (ord : D < X1 ∧ X1 < G1 ∧ G1 < BL ∧ BL < T) (hup : Up np U) (hnp : np ≤ 8) (nd : Nat) (pd : Option Addr) (hd : 0 < nd → ∀ a, pd = some a → a.block < D)
    (hpg : 0 < np → tv.ownBlock = some pg) (hmg : 0 < np → pv.ownBlock = some mg) :
    Ap (cfOf np U es BL T PR pg tv) (mdOf es RF TU LU (w.heap.size + 2) mg pv) X1 G1 w.heap.size (w.heap.size + 1) D (w.heap.size + 3) nd pd := by
  have hs := h.hb
  have o := h.rw.o
  have b2 := h.hb2
  have hx : X1 < HB ∧ G1 < HB := by omega
  have low : ∀ b, b < HB → b ≠ X1 → b ≠ G1 → ¬ Mu (cfOf np U es BL T PR pg tv) (mdOf es RF TU LU (w.heap.size + 2) mg pv) X1 G1 w.heap.size (w.heap.size + 1) (w.heap.size + 3) b := fun b => mu_low h
  refine ⟨⟨?_, hup, ?_, ?_, ?_, ?_, ?_⟩, by omega, by omega, ?_, ?_, ?_, ?_, ⟨low _ (by show BL < HB; omega) (by show BL ≠ X1; omega) (by show BL ≠ G1; omega), low _ (by show T < HB; omega) (by show T ≠ X1; omega) (by show T ≠ G1; omega), fun _ => low _ (by show PR < HB; omega) (by show PR ≠ X1; omega) (by show PR ≠ G1; omega), ?_, ?_, ?_⟩, ⟨?_, ?_, fun _ => low _ (by show RF < HB; omega) (by show RF ≠ X1; omega) (by show RF ≠ G1; omega), fun _ => low _ (by show TU < HB; omega) (by show TU ≠ X1; omega) (by show TU ≠ G1; omega), fun _ => low _ (by show LU < HB; omega) (by show LU ≠ X1; omega) (by show LU ≠ G1; omega), ?_, ?_, ?_⟩, low D (by omega) (by omega) (by omega), fun hn a ha => low _ (by have := hd hn a ha; omega) (by have := hd hn a ha; omega) (by have := hd hn a ha; omega)⟩
  · show np < 1000; omega
  · intro i hi; have := (h.en i hi).nl3; show (es i).nl < 1000; omega
  · intro i hi; exact (h.en i hi).up
  · intro i j hi hj
    have := (h.en i hi).kk j hj
    exact ⟨this.1, by show (es i).k j < 1000; omega⟩
  · intro i j hi hj hne
    show (es i).L ≠ (es j).L
    have a1 := (h.en i hi).hL
    have a2 := (h.en j hj).hL
    have c1 := a1.1; have c2 := a1.2; have c3 := a2.1; have c4 := a2.2
    rcases Nat.lt_or_gt_of_ne hne with hc | hc
    · have := h.ap i j hc hj; omega
    · have := h.ap j i hc hi; omega
  · intro i j a hi hj ha
    show (es i).C j ≠ (es a).L
    by_cases e : i = a
    · subst e; exact ((h.en i hi).neC j hj).1
    · have a1 := ((h.en i hi).hC j hj).1
      have a2 := (h.en a ha).hL
      have c1 := a1.1; have c2 := a1.2; have c3 := a2.1; have c4 := a2.2
      rcases Nat.lt_or_gt_of_ne e with hc | hc
      · have := h.ap i a hc ha; omega
      · have := h.ap a i hc hi; omega
  · intro i hi
    show (es i).L < w.heap.size + 3 ∧ (es i).L ≠ X1 ∧ (es i).L ≠ G1 ∧ (es i).L ≠ w.heap.size ∧ (es i).L ≠ w.heap.size + 1
    have a1 := (h.en i hi).hL
    have c1 := a1.1; have c2 := a1.2
    have := h.iv i hi; have := (h.en i hi).hi
    omega
  · intro i hi
    show (es i).Tn < w.heap.size + 3 ∧ (es i).Tn ≠ X1 ∧ (es i).Tn ≠ G1 ∧ (es i).Tn ≠ w.heap.size ∧ (es i).Tn ≠ w.heap.size + 1
    have a1 := (h.en i hi).hT
    have c1 := a1.1; have c2 := a1.2
    have := h.iv i hi; have := (h.en i hi).hi
    omega
  · intro i j hi hj
    show (es i).L ≠ (es j).Tn
    by_cases e : i = j
    · subst e; exact (h.en i hi).ne
    · have a1 := (h.en i hi).hL
      have a2 := (h.en j hj).hT
      have c1 := a1.1; have c2 := a1.2; have c3 := a2.1; have c4 := a2.2
      rcases Nat.lt_or_gt_of_ne e with hc | hc
      · have := h.ap i j hc hj; omega
      · have := h.ap j i hc hi; omega
  · intro i j hi hj e
    show (es i).Tn ≠ (es j).Tn
    have a1 := (h.en i hi).hT
    have a2 := (h.en j hj).hT
    have c1 := a1.1; have c2 := a1.2; have c3 := a2.1; have c4 := a2.2
    rcases Nat.lt_or_gt_of_ne e with hc | hc
    · have := h.ap i j hc hj; omega
    · have := h.ap j i hc hi; omega
  · intro hn
    have hp := hpg hn
    have := h.tvo.lt pg hp
    exact mu_own h hx this.1 this.2 (fun q hq => h.ot q hq pg hp)
  · intro i hi hn
    exact mu_ent h hx hi ((h.en i hi).hR hn).2.1 ((h.en i hi).neR hn).2.2.1 ((h.en i hi).neR hn).2.2.2.1
  · intro i j hi hj
    exact mu_ent h hx hi ((h.en i hi).hC j hj).1 ((h.en i hi).neC j hj).1 ((h.en i hi).neC j hj).2.1
  · rintro (e | e | e | e | e | ⟨q, hq, e⟩)
    · have e' : w.heap.size + 3 ≤ w.heap.size + 2 := e
      omega
    · have e' : w.heap.size + 2 = X1 := e
      omega
    · have e' : w.heap.size + 2 = G1 := e
      omega
    · have e' : w.heap.size + 2 = w.heap.size := e
      omega
    · have e' : w.heap.size + 2 = w.heap.size + 1 := e
      omega
    · have a1 := (h.en q hq).hL.2
      have a2 := (h.en q hq).hT.2
      have a3 := (h.en q hq).hi
      rcases e with e | e
      · have e' : w.heap.size + 2 = (es q).L := e
        omega
      · have e' : w.heap.size + 2 = (es q).Tn := e
        omega
  · intro hn
    have hp := hmg hn
    have := h.pvo.lt mg hp
    exact mu_own h hx this.1 this.2 (fun q hq => h.op q hq mg hp)
  · intro i hi hn
    exact mu_ent h hx hi ((h.en i hi).hR hn).2.2 ((h.en i hi).neR hn).2.2.2.2.1 ((h.en i hi).neR hn).2.2.2.2.2
  · intro i hi hn
    exact mu_ent h hx hi ((h.en i hi).hR hn).1 ((h.en i hi).neR hn).1 ((h.en i hi).neR hn).2.1
  · intro i j hi hj
    exact mu_ent h hx hi ((h.en i hi).hC j hj).2 ((h.en i hi).neC j hj).2.2.1 ((h.en i hi).neC j hj).2.2.2

theorem endW_fr (w : World) (BL T D : Nat) : Fr (fun b => b = BL) w (endW w BL T D) :=
  (((Fr.setCell (M := fun b => b = BL) (Fr.refl _ w) (p := ⟨BL, 9, none⟩) rfl _).alloc _).alloc _).alloc _

theorem endW_size (w : World) (BL T D : Nat) : (endW w BL T D).heap.size = w.heap.size + 3 := by
  simp [endW, World.setCell]

theorem endW_x (w : World) (BL T D : Nat) : (endW w BL T D).rowIs w.heap.size 3 1 (fun _ => .int .i64 (0 : Nat)) := by
  have := ((row_one (w.setCell ⟨BL, 9, none⟩ (.pointer (some ⟨T, 0, none⟩))) (.int .i64 0) 3).alloc (.cells #[.slice none 0 0] 54)).alloc (.cells #[.func (.func 19) #[] #[.pointer (some ⟨w.heap.size + 1, 0, none⟩), .pointer (some ⟨D, 0, none⟩), .pointer (some ⟨w.heap.size, 0, none⟩)]] 73)
  have hs : (w.setCell ⟨BL, 9, none⟩ (.pointer (some ⟨T, 0, none⟩))).heap.size = w.heap.size := by simp [World.setCell]
  rw [hs] at this
  exact this

theorem endW_g (w : World) (BL T D : Nat) : (endW w BL T D).rowIs (w.heap.size + 1) 54 1 (fun _ => .slice none 0 0) := by
  have := (row_one ((w.setCell ⟨BL, 9, none⟩ (.pointer (some ⟨T, 0, none⟩))).alloc (.cells #[.int .i64 0] 3)) (.slice none 0 0) 54).alloc (.cells #[.func (.func 19) #[] #[.pointer (some ⟨w.heap.size + 1, 0, none⟩), .pointer (some ⟨D, 0, none⟩), .pointer (some ⟨w.heap.size, 0, none⟩)]] 73)
  have hs : ((w.setCell ⟨BL, 9, none⟩ (.pointer (some ⟨T, 0, none⟩))).alloc (.cells #[.int .i64 0] 3)).heap.size = w.heap.size + 1 := by simp [World.setCell]
  rw [hs] at this
  exact this

theorem endW_k (w : World) (BL T D : Nat) : (endW w BL T D).rowIs (w.heap.size + 2) 73 1 (fun _ => .func (.func 19) #[] #[.pointer (some ⟨w.heap.size + 1, 0, none⟩), .pointer (some ⟨D, 0, none⟩), .pointer (some ⟨w.heap.size, 0, none⟩)]) := by
  have := row_one (((w.setCell ⟨BL, 9, none⟩ (.pointer (some ⟨T, 0, none⟩))).alloc (.cells #[.int .i64 0] 3)).alloc (.cells #[.slice none 0 0] 54)) (.func (.func 19) #[] #[.pointer (some ⟨w.heap.size + 1, 0, none⟩), .pointer (some ⟨D, 0, none⟩), .pointer (some ⟨w.heap.size, 0, none⟩)]) 73
  have hs : (((w.setCell ⟨BL, 9, none⟩ (.pointer (some ⟨T, 0, none⟩))).alloc (.cells #[.int .i64 0] 3)).alloc (.cells #[.slice none 0 0] 54)).heap.size = w.heap.size + 2 := by simp [World.setCell]
  rw [hs] at this
  exact this

theorem endW_b (w : World) (BL T D : Nat) {n : Nat} {f : Nat → Value} (h : w.rowIs BL 86 n f) : (endW w BL T D).rowIs BL 86 n (fun j => if j = 9 then .pointer (some ⟨T, 0, none⟩) else f j) :=
  (((h.set 9 _).alloc _).alloc _).alloc _

theorem P1.ready (h : P1 w5 w T PR RF TU LU HB np np np np es U tv pv) (ord : D < X1 ∧ X1 < G1 ∧ G1 < BL ∧ BL < T) (hpg : 0 < np → tv.ownBlock = some pg) (hmg : 0 < np → pv.ownBlock = some mg)
    (p4 : Option Addr) (n4 c4 nZ : Nat) (dz : Nat → Nat) (fB : Nat → Value) (rD : w5.rowIs D 54 1 (fun _ => .slice p4 n4 c4)) (rX : w5.rowIs X1 3 1 (fun _ => .int .i64 (0 : Nat))) (rG : w5.rowIs G1 54 1 (fun _ => .slice none 0 0)) (rB : w5.rowIs BL 86 nZ fB)
    (hZ : 269 < nZ) (f1 : fB 1 = .int .i64 0) (f2 : fB 269 = .func (.func 17) #[] #[.pointer (some ⟨G1, 0, none⟩), .pointer (some ⟨D, 0, none⟩), .pointer (some ⟨X1, 0, none⟩)])
    (hd : ∀ q, q < n4 → ∃ a, p4 = some a ∧ w5.cell? (a.add q) = some (.int .u64 (dz q))) (hda : 0 < n4 → ∀ a, p4 = some a → a.block < D) :
    S2 (cfOf np U es BL T PR pg tv) (mdOf es RF TU LU (w.heap.size + 2) mg pv) (endW w BL T D) (endW w BL T D) X1 G1 w.heap.size (w.heap.size + 1) D (w.heap.size + 3) n4 c4 p4 dz (.slice none 0 0) (.slice none 0 0) 0 0 [] [] (fun _ _ => 0) (fun _ _ => 0) := by
  have hs := h.hb
  have o := h.rw.o
  have b2 := h.hb2
  have fA := endW_fr w BL T D
  have hsz := endW_size w BL T D
  have f5 := h.fr
  have hds : Ds (endW w BL T D) D n4 p4 c4 dz := by
    refine ⟨fA.cell (f5.cell (rD.cell (i := 0) (by omega)) (by show ¬ T ≤ D; omega)) (by show D ≠ BL; omega), fun q hq => ?_⟩
    obtain ⟨a, e, hc⟩ := hd q hq
    have := hda (by omega) a e
    exact ⟨a, e, fA.cell (f5.cell hc (by rw [add_block]; omega)) (by rw [add_block]; omega)⟩
  have rX' := fA.row (f5.row rX (by omega)) (by omega)
  have rG' := fA.row (f5.row rG (by omega)) (by omega)
  have rB' := endW_b w BL T D (f5.row rB (by omega))
  have rw' := h.rw.next fA (fun b q1 q2 e => by omega)
  have en' : ∀ q, q < np → (es q).Ok (endW w BL T D) := fun q hq => (h.en q hq).fr fA (fun b hh e => by have := h.iv q hq; have := hh.1; omega)
  have hUt : 0 < np → Us (endW w BL T D) tv np pg U := fun hn => by
    obtain ⟨g, e, g1, g2, g3⟩ := owns_us h.tvo hn
    rw [hpg hn] at e; cases e
    exact g3.fr fA (by omega)
  have hUp : 0 < np → Us (endW w BL T D) pv np mg U := fun hn => by
    obtain ⟨g, e, g1, g2, g3⟩ := owns_us h.pvo hn
    rw [hmg hn] at e; cases e
    exact g3.fr fA (by omega)
  refine ⟨⟨⟨rX', rG', World.ownsRow_nil _ _ _ _⟩, hds, by omega, by omega, fun hn a ha => by have := hda hn a ha; omega⟩, ⟨⟨endW_x w BL T D, endW_g w BL T D, World.ownsRow_nil _ _ _ _⟩, hds, by omega, by omega, fun hn a ha => by have := hda hn a ha; omega⟩, ⟨?_, ?_, ?_, rw'.t, hUt, ?_, ?_, ?_, ?_⟩, ⟨(endW_k w BL T D).cell (i := 0) (by omega), hUp, ?_, ?_, ?_, ?_, ?_, ?_⟩, ?_, ?_, Fr.refl _ _, fun b hb => (by cases hb)⟩
  · have := rB'.cell (i := 1) (by omega)
    rw [if_neg (by omega), f1] at this; exact this
  · have := rB'.cell (i := 9) (by omega)
    rw [if_pos rfl] at this; exact this
  · have := rB'.cell (i := 269) (by omega)
    rw [if_neg (by omega), f2] at this; exact this
  · intro i hi
    have hi' : i < np := hi
    have := rw'.p.cell (i := i * 3 + 1) (by omega)
    unfold fpF at this
    rw [if_neg (by omega), if_pos (by omega), if_pos (by omega), show (i * 3 + 1) / 3 = i by omega] at this
    exact this
  · intro i hi
    have hi' : i < np := hi
    have := rw'.p.cell (i := i * 3 + 2) (by omega)
    unfold fpF at this
    rw [if_neg (by omega), if_pos (by omega), if_neg (by omega), show (i * 3 + 2) / 3 = i by omega] at this
    exact this
  · intro i hi hn
    exact (en' i hi).lus hn
  · intro i j e hi hj he
    exact (en' i hi).cs j e hj he
  · intro i hi
    have hi' : i < np := hi
    have := rw'.r.cell (i := i) hi'
    unfold frF at this
    rw [if_pos hi'] at this; exact this
  · intro i hi
    have hi' : i < np := hi
    have := rw'.u.cell (i := i) hi'
    unfold fuF at this
    rw [if_pos hi'] at this; exact this
  · intro i hi
    have hi' : i < np := hi
    have := rw'.l.cell (i := i) hi'
    unfold flF at this
    rw [if_pos hi'] at this; exact this
  · intro i hi hn
    exact (en' i hi).mus hn
  · intro i j hi hj
    exact (en' i hi).r j hj
  · intro i j e hi hj he
    exact (en' i hi).rc j e hj he
  · intro i hi
    exact (en' i hi).lr
  · intro i hi
    exact (en' i hi).tr
end

end Go.Proofs.Ybulkbdbe
