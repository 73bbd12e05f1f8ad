import Derived.Test.YbulkbdbeRows
import Derived.WalkKit
import Derived.WalkSpells
import Derived.WalkLawsBesides
import Derived.Below
import Derived.Maps.AppendAt
import Derived.Deep.OwnRows
import Derived.Deep.QuietTactic
import Derived.Deep.RegionWith
namespace Go.Proofs.Ybulkbdbe
open Go.RowKit Go.Deep
set_option linter.unusedVariables false

/-- from w to w' no block has turned but those that M names; the streams are as they were -/
structure Fr (M : Nat → Prop) (w w' : World) : Prop where
  os : w'.os = w.os
  tape : w'.tape = w.tape
  output : w'.output = w.output
  size : w.heap.size ≤ w'.heap.size
  keep : ∀ b, b < w.heap.size → ¬ M b → w'.heap[b]? = w.heap[b]?

namespace Fr
variable {M N : Nat → Prop} {a w w' : World}

theorem refl (M : Nat → Prop) (w : World) : Fr M w w := ⟨rfl, rfl, rfl, Nat.le_refl _, fun _ _ _ => rfl⟩

theorem trans {b c : World} (h : Fr M a b) (k : Fr M b c) : Fr M a c :=
  ⟨k.os.trans h.os, k.tape.trans h.tape, k.output.trans h.output, Nat.le_trans h.size k.size, fun i hi hn => (k.keep i (Nat.lt_of_lt_of_le hi h.size) hn).trans (h.keep i hi hn)⟩

theorem mono (h : Fr M w w') (hM : ∀ b, b < w.heap.size → M b → N b) : Fr N w w' :=
  ⟨h.os, h.tape, h.output, h.size, fun b hb hn => h.keep b hb fun hm => hn (hM b hb hm)⟩

theorem alloc (h : Fr M a w) (o : Obj) : Fr M a (w.alloc o) :=
  h.trans ⟨rfl, rfl, rfl, by simp, fun k hk _ => Below.heap_alloc _ _ _ hk⟩

theorem setCell (h : Fr M a w) {p : Addr} (hp : M p.block) (u : Value) : Fr M a (w.setCell p u) :=
  h.trans ⟨rfl, rfl, rfl, by simp [World.setCell], fun k hk hn => Below.heap_setCell _ _ _ _ (fun e => hn (e ▸ hp))⟩

theorem setNew (h : Fr M a w) {p : Addr} (hp : a.heap.size ≤ p.block) (u : Value) : Fr M a (w.setCell p u) :=
  ⟨h.os, h.tape, h.output, by simp [World.setCell]; exact h.size, fun k hk hn => (Below.heap_setCell _ _ _ _ (by omega)).trans (h.keep k hk hn)⟩

theorem drew (h : Fr M a w) : Fr M a w.drew := ⟨h.os, h.tape, h.output, h.size, h.keep⟩

theorem grown {row : Option Nat} (h : Fr M a w) (hg : w.grownBy w' row) (hr : ∀ k, row = some k → M k ∨ a.heap.size ≤ k) : Fr M a w' :=
  ⟨hg.os.trans h.os, hg.tape.trans h.tape, hg.output.trans h.output, Nat.le_trans h.size hg.size, fun k hk hn => (hg.block k (Nat.lt_of_lt_of_le hk h.size) (fun e => by
    rcases hr k e.symm with hm | hm
    · exact hn hm
    · omega)).trans (h.keep k hk hn)⟩

theorem cell (h : Fr M w w') {p : Addr} {v : Value} (hc : w.cell? p = some v) (hn : ¬ M p.block) : w'.cell? p = some v := by
  rw [World.cell?_of_block (w := w) (h.keep _ (block_lt_of_cell hc) hn)]; exact hc

theorem row (h : Fr M w w') {b : Nat} {t : TypeId} {n : Nat} {f : Nat → Value} (hr : w.rowIs b t n f) (hn : ¬ M b) : w'.rowIs b t n f := hr.of_block (h.keep b hr.lt hn)

theorem below (h : Fr M w w') {B : Nat} (hB : ∀ b, b < B → ¬ M b) (hs : B ≤ w.heap.size) : Below B w w' :=
  ⟨h.os, h.tape, h.output, h.size, fun k hk => h.keep k (by omega) (hB k hk)⟩

theorem owns (h : Fr M w w') {base : Nat} {e : TypeId} {size : Nat} {v : Value} {n : Nat} {xs : List Value} (ho : w.ownsRow base e size v n xs) (hn : ∀ k, v.ownBlock = some k → ¬ M k) : w'.ownsRow base e size v n xs := by
  refine ⟨ho.1, ?_⟩
  rcases ho.2 with q | ⟨g, cap, cur, rfl, hb, hg, rest⟩
  · exact .inl q
  · refine .inr ⟨g, cap, cur, rfl, hb, ?_, rest⟩
    rw [h.keep g (Array.getElem?_eq_some_iff.1 hg).1 (hn g rfl)]
    exact hg

theorem drewN (h : Fr M a w) (n : Nat) : Fr M a (w.drewN n) := ⟨h.os, h.tape, h.output, h.size, h.keep⟩
end Fr

theorem Yba.info33 : (Yba.prog.info? 33).map (fun i => (i.zero, i.size, i.bytes)) = some (some (.int .u64 0), 1, 8) := by kernel_rfl

/-- the d that came in: its slice lies in block D, its numbers are dz -/
structure Ds (w : World) (D nd : Nat) (pd : Option Addr) (cd : Nat) (dz : Nat → Nat) : Prop where
  cell : w.cell? ⟨D, 0, none⟩ = some (.slice pd nd cd)
  num : ∀ q, q < nd → ∃ a, pd = some a ∧ w.cell? (a.add q) = some (.int .u64 (dz q))

/-- the i-th number drawn -/
def dv (nd : Nat) (dz : Nat → Nat) (i : Nat) : Nat := if nd = 0 then 0 else dz (i % nd)

/-- a drawing closure's own: its index i, what it has been asked -/
structure Dw (w : World) (X G base : Nat) (lv : Value) (i : Nat) (xs : List Int) : Prop where
  x : w.rowIs X 3 1 (fun _ => .int .i64 i)
  g : w.rowIs G 54 1 (fun _ => lv)
  own : w.ownsRow base 33 1 lv xs.length (xs.map (Value.int .u64))

set_option maxHeartbeats 1000000 in
set_option maxRecDepth 100000 in
theorem draw17 (w : World) (X G D base nd cd i N : Nat) (pd : Option Addr) (dz : Nat → Nat) (lv : Value) (xs : List Int)
    (h : Dw w X G base lv i xs) (hd : Ds w D nd pd cd dz) (hb : base ≤ w.heap.size) (hX : X < base) (hG : G < base) (hXG : X ≠ G) (hDX : D ≠ X) (hDG : D ≠ G) (hDb : D < base) (hda : 0 < nd → ∀ a, pd = some a → a.block < base ∧ a.block ≠ X ∧ a.block ≠ G)
    (hi : i < 1000) (hl : xs.length < 1000) (hN : 0 < N) (hN2 : N < 18446744073709551616) :
    Calls Yba.prog 17 #[.int .u64 N, .pointer (some ⟨G, 0, none⟩), .pointer (some ⟨D, 0, none⟩), .pointer (some ⟨X, 0, none⟩)] w fun e w' => e = .returned (.int .u64 (dv nd dz i % N : Nat)) ∧ ∃ lv', Dw w' X G base lv' (i + 1) (xs ++ [(N : Int)]) ∧ Fr (fun b => b = X ∨ b = G ∨ some b = lv.ownBlock) w w' ∧ (lv'.ownBlock = lv.ownBlock ∨ ∃ g, lv'.ownBlock = some g ∧ w.heap.size ≤ g) := by
  have cG := h.g.cell (i := 0) (by omega)
  have cX := h.x.cell (i := 0) (by omega)
  have fX := h.x.frozen 0
  have hHX := h.x
  have hHG := h.g
  have hGlt := h.g.lt
  have hXlt := h.x.lt
  have HOwn : Hid (w.ownsRow base 33 1 lv xs.length (xs.map (Value.int .u64))) := h.own
  have HHX : Hid (w.rowIs X 3 1 (fun _ => .int .i64 i)) := h.x
  have HHG : Hid (w.rowIs G 54 1 (fun _ => lv)) := h.g
  have HD : Hid (Ds w D nd pd cd dz) := hd
  have cD := hd.cell
  clear h hHX hHG hd cX fX
  obtain ⟨i33, hi33, hz33, hs33, hb33⟩ := info_parts Yba.info33
  go_enter Yba.func17, Yba.ntmps17
  go_wp2_with (at_builtin; refine wpList_append_own_at _ rfl (.tmp 7) (.tmp 9) 54 rfl base 33 i33 (.int .u64 0) 1 8 Yba.underlying54 hi33 hz33 hs33 hb33 rfl (by decide) lv xs.length (xs.map (Value.int .u64)) rfl ?hqo ⟨w.heap.size, 0, none⟩ 1 1 [.int .u64 N] rfl rfl ?qc2 ?qc3 ?qc4 ?qc5 ?qc6 ?_)
  case hqo => exact HOwn.out.alloc _
  case qc2 => exact cell_one_new _ _ _
  case qc3 => intro u hu; simp at hu; subst hu; rfl
  case qc4 => unfold maxLen; omega
  case qc5 => omega
  case qc6 => simp; omega
  intro lv0 w1 hown' hgrow hnil hat
  obtain ⟨g', cap', hlv'⟩ : ∃ g cap, lv0 = .slice (some ⟨g, 0, none⟩) (xs.length + 1) cap := by
    rcases hown'.2 with ⟨_, q⟩ | ⟨g, cap, cur, q, _⟩
    · omega
    · exact ⟨g, cap, q⟩
  have hnil := hlv'
  subst hlv'
  clear hnil
  have hs1 : w.heap.size + 1 ≤ w1.heap.size := by have := hgrow.size; simp at this; omega
  have hol := HOwn.out.lt
  have hk1 : ∀ b, b < w.heap.size → some b ≠ lv.ownBlock → w1.heap[b]? = w.heap[b]? := fun b hb hn => by
    rw [hgrow.block b (by simp; omega) hn]; exact Below.heap_alloc _ _ _ hb
  have nG : some G ≠ lv.ownBlock := fun e => by have := (hol G e.symm).1; omega
  have nX : some X ≠ lv.ownBlock := fun e => by have := (hol X e.symm).1; omega
  have nD : some D ≠ lv.ownBlock := fun e => by have := (hol D e.symm).1; omega
  have rG1 : w1.rowIs G 54 1 (fun _ => lv) := HHG.out.of_block (hk1 G hGlt nG)
  have rX1 : w1.rowIs X 3 1 (fun _ => .int .i64 i) := HHX.out.of_block (hk1 X hXlt nX)
  have fr1 : Fr (fun b => b = X ∨ b = G ∨ some b = lv.ownBlock) w w1 := ((Fr.refl _ _).alloc _).grown hgrow (fun k hk => .inl (.inr (.inr hk.symm)))
  have fr2 : Fr (fun b => b = X ∨ b = G ∨ some b = lv.ownBlock) w (w1.setCell ⟨G, 0, none⟩ (Value.slice (some ⟨g', 0, none⟩) (xs.length + 1) cap')) := fr1.setCell (.inr (.inl rfl)) _
  have rG2 : (w1.setCell ⟨G, 0, none⟩ (Value.slice (some ⟨g', 0, none⟩) (xs.length + 1) cap')).rowIs G 54 1 (fun _ => (Value.slice (some ⟨g', 0, none⟩) (xs.length + 1) cap')) := (rG1.set 0 (Value.slice (some ⟨g', 0, none⟩) (xs.length + 1) cap')).congr fun q hq => by rw [if_pos (by omega)]
  have rX2 : (w1.setCell ⟨G, 0, none⟩ (Value.slice (some ⟨g', 0, none⟩) (xs.length + 1) cap')).rowIs X 3 1 (fun _ => .int .i64 i) := rX1.setOther hXG _
  have hown1 : w1.ownsRow base 33 1 (Value.slice (some ⟨g', 0, none⟩) (xs.length + 1) cap') (xs ++ [(N : Int)]).length ((xs ++ [(N : Int)]).map (Value.int .u64)) := by
    simpa using hown'
  have hol1 := hown1.lt
  have own2 : (w1.setCell ⟨G, 0, none⟩ (Value.slice (some ⟨g', 0, none⟩) (xs.length + 1) cap')).ownsRow base 33 1 (Value.slice (some ⟨g', 0, none⟩) (xs.length + 1) cap') (xs ++ [(N : Int)]).length ((xs ++ [(N : Int)]).map (Value.int .u64)) :=
    (Fr.setCell (M := fun b => b = G) (Fr.refl _ w1) (p := ⟨G, 0, none⟩) rfl (Value.slice (some ⟨g', 0, none⟩) (xs.length + 1) cap')).owns hown1 (fun k hk e => by have := (hol1 k hk).1; omega)
  have hat' : (Value.slice (some ⟨g', 0, none⟩) (xs.length + 1) cap').ownBlock = lv.ownBlock ∨ ∃ g, (Value.slice (some ⟨g', 0, none⟩) (xs.length + 1) cap').ownBlock = some g ∧ w.heap.size ≤ g := by
    rcases hat with q | q
    · exact .inl q
    · exact .inr ⟨_, q, by simp⟩
  have cG1 := rG1.cell (i := 0) (by omega)
  have fG1 := rG1.frozen 0
  have HAt : Hid ((Value.slice (some ⟨g', 0, none⟩) (xs.length + 1) cap').ownBlock = lv.ownBlock ∨ ∃ g, (Value.slice (some ⟨g', 0, none⟩) (xs.length + 1) cap').ownBlock = some g ∧ w.heap.size ≤ g) := hat'
  have HF2 : Hid (Fr (fun b => b = X ∨ b = G ∨ some b = lv.ownBlock) w (w1.setCell ⟨G, 0, none⟩ (Value.slice (some ⟨g', 0, none⟩) (xs.length + 1) cap'))) := fr2
  have HO2 : Hid ((w1.setCell ⟨G, 0, none⟩ (Value.slice (some ⟨g', 0, none⟩) (xs.length + 1) cap')).ownsRow base 33 1 (Value.slice (some ⟨g', 0, none⟩) (xs.length + 1) cap') (xs ++ [(N : Int)]).length ((xs ++ [(N : Int)]).map (Value.int .u64))) := own2
  have HG2 : Hid ((w1.setCell ⟨G, 0, none⟩ (Value.slice (some ⟨g', 0, none⟩) (xs.length + 1) cap')).rowIs G 54 1 (fun _ => (Value.slice (some ⟨g', 0, none⟩) (xs.length + 1) cap'))) := rG2
  have HX2 : Hid ((w1.setCell ⟨G, 0, none⟩ (Value.slice (some ⟨g', 0, none⟩) (xs.length + 1) cap')).rowIs X 3 1 (fun _ => .int .i64 i)) := rX2
  have cX2 := rX2.cell (i := 0) (by omega)
  have fX2 := rX2.frozen 0
  have hD2 : Ds (w1.setCell ⟨G, 0, none⟩ (Value.slice (some ⟨g', 0, none⟩) (xs.length + 1) cap')) D nd pd cd dz := ⟨fr2.cell HD.out.cell (by intro e; rcases e with e | e | e <;> first | exact hDX e | exact hDG e | exact nD e), fun q hq => by
    obtain ⟨a, ha, hc⟩ := HD.out.num q hq
    refine ⟨a, ha, fr2.cell hc ?_⟩
    have hab := hda (by omega) a ha
    have hblk : (a.add q).block = a.block := by unfold Addr.add; split <;> rfl
    intro e
    rw [hblk] at e
    rcases e with e | e | e
    · exact hab.2.1 e
    · exact hab.2.2 e
    · have := (hol a.block e.symm).1; omega⟩
  have cD2 := hD2.cell
  have HD2 : Hid (Ds (w1.setCell ⟨G, 0, none⟩ (Value.slice (some ⟨g', 0, none⟩) (xs.length + 1) cap')) D nd pd cd dz) := hD2
  have hii : (i : Int) < 1000 := by omega
  have hNi : (0 : Int) < (N : Int) := by omega
  have hN0 : ¬ (N : Int) = 0 := by omega
  clear hown' hgrow hnil hat hat' fr1 fr2 rG2 rX2 rX1 rG1 own2 hown1 hol1 hD2 hk1 nG nX nD hs1 cD cG hda hN2
  by_cases hnd : nd = 0
  · have HV : Hid (dv nd dz i = 0) := (by unfold dv; rw [if_pos hnd] : dv nd dz i = 0)
    subst hnd
    go_wp2_with fail
    generalize hw2 : w1.setCell ⟨G, 0, none⟩ (Value.slice (some ⟨g', 0, none⟩) (xs.length + 1) cap') = w2 at *
    go_wp2
    go_ret
    refine ⟨by rw [HV.out]; simp, (Value.slice (some ⟨g', 0, none⟩) (xs.length + 1) cap'), ⟨?_, ?_, ?_⟩, HF2.out.setCell (.inl rfl) _, HAt.out⟩
    · exact (HX2.out.set 0 _).congr fun q hq => by rw [if_pos (by omega)]; congr 1
    · exact HG2.out.setOther (Ne.symm hXG) _
    · exact (Fr.setCell (M := fun b => b = X) (Fr.refl _ w2) (p := ⟨X, 0, none⟩) rfl _).owns HO2.out (fun k hk e => by have := (HO2.out.lt k hk).1; omega)
  · obtain ⟨a, ha, hca⟩ := HD2.out.num (i % nd) (Nat.mod_lt _ (by omega))
    subst ha
    have HV : Hid (dv nd dz i = dz (i % nd)) := (by unfold dv; rw [if_neg hnd] : dv nd dz i = dz (i % nd))
    have hndi : (0 : Int) < (nd : Int) := by omega
    have hnd0 : ¬ (nd : Int) = 0 := by omega
    have hlt : i % nd < nd := Nat.mod_lt _ (by omega)
    have hmod : (i : Int).tmod (nd : Int) = ((i % nd : Nat) : Int) := by
      rw [Int.tmod_eq_emod_of_nonneg (by omega)]; omega
    generalize i % nd = q at *
    have hlti : (q : Int) < (nd : Int) := by omega
    go_wp2_with fail
    generalize hw2 : w1.setCell ⟨G, 0, none⟩ (Value.slice (some ⟨g', 0, none⟩) (xs.length + 1) cap') = w2 at *
    go_quiet (fail)
    go_wp2
    go_ret
    refine ⟨by rw [HV.out]; simp, (Value.slice (some ⟨g', 0, none⟩) (xs.length + 1) cap'), ⟨?_, ?_, ?_⟩, (HF2.out.drewN _).setCell (.inl rfl) _, HAt.out⟩
    · exact (World.rowIs.set (w := w2.drewN _) (show (w2.drewN _).rowIs X 3 1 _ from HX2.out) 0 _).congr fun q hq => by rw [if_pos (by omega)]; congr 1
    · exact World.rowIs.setOther (w := w2.drewN _) (show (w2.drewN _).rowIs G 54 1 _ from HG2.out) (Ne.symm hXG) _
    · exact (Fr.setCell (M := fun b => b = X) ((Fr.refl _ w2).drewN _) (p := ⟨X, 0, none⟩) rfl _).owns HO2.out (fun k hk e => by have := (HO2.out.lt k hk).1; omega)

set_option maxHeartbeats 1000000 in
set_option maxRecDepth 100000 in
theorem draw19 (w : World) (X G D base nd cd i N : Nat) (pd : Option Addr) (dz : Nat → Nat) (lv : Value) (xs : List Int)
    (h : Dw w X G base lv i xs) (hd : Ds w D nd pd cd dz) (hb : base ≤ w.heap.size) (hX : X < base) (hG : G < base) (hXG : X ≠ G) (hDX : D ≠ X) (hDG : D ≠ G) (hDb : D < base) (hda : 0 < nd → ∀ a, pd = some a → a.block < base ∧ a.block ≠ X ∧ a.block ≠ G)
    (hi : i < 1000) (hl : xs.length < 1000) (hN : 0 < N) (hN2 : N < 18446744073709551616) :
    Calls Yba.prog 19 #[.int .u64 N, .pointer (some ⟨G, 0, none⟩), .pointer (some ⟨D, 0, none⟩), .pointer (some ⟨X, 0, none⟩)] w fun e w' => e = .returned (.int .u64 (dv nd dz i % N : Nat)) ∧ ∃ lv', Dw w' X G base lv' (i + 1) (xs ++ [(N : Int)]) ∧ Fr (fun b => b = X ∨ b = G ∨ some b = lv.ownBlock) w w' ∧ (lv'.ownBlock = lv.ownBlock ∨ ∃ g, lv'.ownBlock = some g ∧ w.heap.size ≤ g) := by
  have cG := h.g.cell (i := 0) (by omega)
  have cX := h.x.cell (i := 0) (by omega)
  have fX := h.x.frozen 0
  have hHX := h.x
  have hHG := h.g
  have hGlt := h.g.lt
  have hXlt := h.x.lt
  have HOwn : Hid (w.ownsRow base 33 1 lv xs.length (xs.map (Value.int .u64))) := h.own
  have HHX : Hid (w.rowIs X 3 1 (fun _ => .int .i64 i)) := h.x
  have HHG : Hid (w.rowIs G 54 1 (fun _ => lv)) := h.g
  have HD : Hid (Ds w D nd pd cd dz) := hd
  have cD := hd.cell
  clear h hHX hHG hd cX fX
  obtain ⟨i33, hi33, hz33, hs33, hb33⟩ := info_parts Yba.info33
  go_enter Yba.func19, Yba.ntmps19
  go_wp2_with (at_builtin; refine wpList_append_own_at _ rfl (.tmp 7) (.tmp 9) 54 rfl base 33 i33 (.int .u64 0) 1 8 Yba.underlying54 hi33 hz33 hs33 hb33 rfl (by decide) lv xs.length (xs.map (Value.int .u64)) rfl ?hqo ⟨w.heap.size, 0, none⟩ 1 1 [.int .u64 N] rfl rfl ?qc2 ?qc3 ?qc4 ?qc5 ?qc6 ?_)
  case hqo => exact HOwn.out.alloc _
  case qc2 => exact cell_one_new _ _ _
  case qc3 => intro u hu; simp at hu; subst hu; rfl
  case qc4 => unfold maxLen; omega
  case qc5 => omega
  case qc6 => simp; omega
  intro lv0 w1 hown' hgrow hnil hat
  obtain ⟨g', cap', hlv'⟩ : ∃ g cap, lv0 = .slice (some ⟨g, 0, none⟩) (xs.length + 1) cap := by
    rcases hown'.2 with ⟨_, q⟩ | ⟨g, cap, cur, q, _⟩
    · omega
    · exact ⟨g, cap, q⟩
  have hnil := hlv'
  subst hlv'
  clear hnil
  have hs1 : w.heap.size + 1 ≤ w1.heap.size := by have := hgrow.size; simp at this; omega
  have hol := HOwn.out.lt
  have hk1 : ∀ b, b < w.heap.size → some b ≠ lv.ownBlock → w1.heap[b]? = w.heap[b]? := fun b hb hn => by
    rw [hgrow.block b (by simp; omega) hn]; exact Below.heap_alloc _ _ _ hb
  have nG : some G ≠ lv.ownBlock := fun e => by have := (hol G e.symm).1; omega
  have nX : some X ≠ lv.ownBlock := fun e => by have := (hol X e.symm).1; omega
  have nD : some D ≠ lv.ownBlock := fun e => by have := (hol D e.symm).1; omega
  have rG1 : w1.rowIs G 54 1 (fun _ => lv) := HHG.out.of_block (hk1 G hGlt nG)
  have rX1 : w1.rowIs X 3 1 (fun _ => .int .i64 i) := HHX.out.of_block (hk1 X hXlt nX)
  have fr1 : Fr (fun b => b = X ∨ b = G ∨ some b = lv.ownBlock) w w1 := ((Fr.refl _ _).alloc _).grown hgrow (fun k hk => .inl (.inr (.inr hk.symm)))
  have fr2 : Fr (fun b => b = X ∨ b = G ∨ some b = lv.ownBlock) w (w1.setCell ⟨G, 0, none⟩ (Value.slice (some ⟨g', 0, none⟩) (xs.length + 1) cap')) := fr1.setCell (.inr (.inl rfl)) _
  have rG2 : (w1.setCell ⟨G, 0, none⟩ (Value.slice (some ⟨g', 0, none⟩) (xs.length + 1) cap')).rowIs G 54 1 (fun _ => (Value.slice (some ⟨g', 0, none⟩) (xs.length + 1) cap')) := (rG1.set 0 (Value.slice (some ⟨g', 0, none⟩) (xs.length + 1) cap')).congr fun q hq => by rw [if_pos (by omega)]
  have rX2 : (w1.setCell ⟨G, 0, none⟩ (Value.slice (some ⟨g', 0, none⟩) (xs.length + 1) cap')).rowIs X 3 1 (fun _ => .int .i64 i) := rX1.setOther hXG _
  have hown1 : w1.ownsRow base 33 1 (Value.slice (some ⟨g', 0, none⟩) (xs.length + 1) cap') (xs ++ [(N : Int)]).length ((xs ++ [(N : Int)]).map (Value.int .u64)) := by
    simpa using hown'
  have hol1 := hown1.lt
  have own2 : (w1.setCell ⟨G, 0, none⟩ (Value.slice (some ⟨g', 0, none⟩) (xs.length + 1) cap')).ownsRow base 33 1 (Value.slice (some ⟨g', 0, none⟩) (xs.length + 1) cap') (xs ++ [(N : Int)]).length ((xs ++ [(N : Int)]).map (Value.int .u64)) :=
    (Fr.setCell (M := fun b => b = G) (Fr.refl _ w1) (p := ⟨G, 0, none⟩) rfl (Value.slice (some ⟨g', 0, none⟩) (xs.length + 1) cap')).owns hown1 (fun k hk e => by have := (hol1 k hk).1; omega)
  have hat' : (Value.slice (some ⟨g', 0, none⟩) (xs.length + 1) cap').ownBlock = lv.ownBlock ∨ ∃ g, (Value.slice (some ⟨g', 0, none⟩) (xs.length + 1) cap').ownBlock = some g ∧ w.heap.size ≤ g := by
    rcases hat with q | q
    · exact .inl q
    · exact .inr ⟨_, q, by simp⟩
  have cG1 := rG1.cell (i := 0) (by omega)
  have fG1 := rG1.frozen 0
  have HAt : Hid ((Value.slice (some ⟨g', 0, none⟩) (xs.length + 1) cap').ownBlock = lv.ownBlock ∨ ∃ g, (Value.slice (some ⟨g', 0, none⟩) (xs.length + 1) cap').ownBlock = some g ∧ w.heap.size ≤ g) := hat'
  have HF2 : Hid (Fr (fun b => b = X ∨ b = G ∨ some b = lv.ownBlock) w (w1.setCell ⟨G, 0, none⟩ (Value.slice (some ⟨g', 0, none⟩) (xs.length + 1) cap'))) := fr2
  have HO2 : Hid ((w1.setCell ⟨G, 0, none⟩ (Value.slice (some ⟨g', 0, none⟩) (xs.length + 1) cap')).ownsRow base 33 1 (Value.slice (some ⟨g', 0, none⟩) (xs.length + 1) cap') (xs ++ [(N : Int)]).length ((xs ++ [(N : Int)]).map (Value.int .u64))) := own2
  have HG2 : Hid ((w1.setCell ⟨G, 0, none⟩ (Value.slice (some ⟨g', 0, none⟩) (xs.length + 1) cap')).rowIs G 54 1 (fun _ => (Value.slice (some ⟨g', 0, none⟩) (xs.length + 1) cap'))) := rG2
  have HX2 : Hid ((w1.setCell ⟨G, 0, none⟩ (Value.slice (some ⟨g', 0, none⟩) (xs.length + 1) cap')).rowIs X 3 1 (fun _ => .int .i64 i)) := rX2
  have cX2 := rX2.cell (i := 0) (by omega)
  have fX2 := rX2.frozen 0
  have hD2 : Ds (w1.setCell ⟨G, 0, none⟩ (Value.slice (some ⟨g', 0, none⟩) (xs.length + 1) cap')) D nd pd cd dz := ⟨fr2.cell HD.out.cell (by intro e; rcases e with e | e | e <;> first | exact hDX e | exact hDG e | exact nD e), fun q hq => by
    obtain ⟨a, ha, hc⟩ := HD.out.num q hq
    refine ⟨a, ha, fr2.cell hc ?_⟩
    have hab := hda (by omega) a ha
    have hblk : (a.add q).block = a.block := by unfold Addr.add; split <;> rfl
    intro e
    rw [hblk] at e
    rcases e with e | e | e
    · exact hab.2.1 e
    · exact hab.2.2 e
    · have := (hol a.block e.symm).1; omega⟩
  have cD2 := hD2.cell
  have HD2 : Hid (Ds (w1.setCell ⟨G, 0, none⟩ (Value.slice (some ⟨g', 0, none⟩) (xs.length + 1) cap')) D nd pd cd dz) := hD2
  have hii : (i : Int) < 1000 := by omega
  have hNi : (0 : Int) < (N : Int) := by omega
  have hN0 : ¬ (N : Int) = 0 := by omega
  clear hown' hgrow hnil hat hat' fr1 fr2 rG2 rX2 rX1 rG1 own2 hown1 hol1 hD2 hk1 nG nX nD hs1 cD cG hda hN2
  by_cases hnd : nd = 0
  · have HV : Hid (dv nd dz i = 0) := (by unfold dv; rw [if_pos hnd] : dv nd dz i = 0)
    subst hnd
    go_wp2_with fail
    generalize hw2 : w1.setCell ⟨G, 0, none⟩ (Value.slice (some ⟨g', 0, none⟩) (xs.length + 1) cap') = w2 at *
    go_wp2
    go_ret
    refine ⟨by rw [HV.out]; simp, (Value.slice (some ⟨g', 0, none⟩) (xs.length + 1) cap'), ⟨?_, ?_, ?_⟩, HF2.out.setCell (.inl rfl) _, HAt.out⟩
    · exact (HX2.out.set 0 _).congr fun q hq => by rw [if_pos (by omega)]; congr 1
    · exact HG2.out.setOther (Ne.symm hXG) _
    · exact (Fr.setCell (M := fun b => b = X) (Fr.refl _ w2) (p := ⟨X, 0, none⟩) rfl _).owns HO2.out (fun k hk e => by have := (HO2.out.lt k hk).1; omega)
  · obtain ⟨a, ha, hca⟩ := HD2.out.num (i % nd) (Nat.mod_lt _ (by omega))
    subst ha
    have HV : Hid (dv nd dz i = dz (i % nd)) := (by unfold dv; rw [if_neg hnd] : dv nd dz i = dz (i % nd))
    have hndi : (0 : Int) < (nd : Int) := by omega
    have hnd0 : ¬ (nd : Int) = 0 := by omega
    have hlt : i % nd < nd := Nat.mod_lt _ (by omega)
    have hmod : (i : Int).tmod (nd : Int) = ((i % nd : Nat) : Int) := by
      rw [Int.tmod_eq_emod_of_nonneg (by omega)]; omega
    generalize i % nd = q at *
    have hlti : (q : Int) < (nd : Int) := by omega
    go_wp2_with fail
    generalize hw2 : w1.setCell ⟨G, 0, none⟩ (Value.slice (some ⟨g', 0, none⟩) (xs.length + 1) cap') = w2 at *
    go_quiet (fail)
    go_wp2
    go_ret
    refine ⟨by rw [HV.out]; simp, (Value.slice (some ⟨g', 0, none⟩) (xs.length + 1) cap'), ⟨?_, ?_, ?_⟩, (HF2.out.drewN _).setCell (.inl rfl) _, HAt.out⟩
    · exact (World.rowIs.set (w := w2.drewN _) (show (w2.drewN _).rowIs X 3 1 _ from HX2.out) 0 _).congr fun q hq => by rw [if_pos (by omega)]; congr 1
    · exact World.rowIs.setOther (w := w2.drewN _) (show (w2.drewN _).rowIs G 54 1 _ from HG2.out) (Ne.symm hXG) _
    · exact (Fr.setCell (M := fun b => b = X) ((Fr.refl _ w2).drewN _) (p := ⟨X, 0, none⟩) rfl _).owns HO2.out (fun k hk e => by have := (HO2.out.lt k hk).1; omega)

end Go.Proofs.Ybulkbdbe
