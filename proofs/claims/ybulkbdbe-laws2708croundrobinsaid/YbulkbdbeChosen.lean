import Derived.Test.YbulkbdbeChoose
namespace Go.Proofs.Ybulkbdbe
open Go.RowKit Go.Deep
set_option linter.unusedVariables false

/-- a route table: how it is made and where it lies -/
structure Cf where
  np : Nat
  U : Nat → Nat
  nl : Nat → Nat
  lU : Nat → Nat → Nat
  k : Nat → Nat → Nat
  E : Nat → Nat → Nat → Nat
  BL : Nat
  T : Nat
  PR : Nat
  pg : Nat
  L : Nat → Nat
  ug : Nat → Nat
  C : Nat → Nat → Nat
  pv : Value
  uv : Nat → Value

/-- what is plain about it -/
structure Cf.Pure (c : Cf) : Prop where
  np : c.np < 1000
  up : Up c.np c.U
  nl : ∀ i, i < c.np → c.nl i < 1000
  lup : ∀ i, i < c.np → Up (c.nl i) (c.lU i)
  k : ∀ i j, i < c.np → j < c.nl i → 0 < c.k i j ∧ c.k i j < 1000
  inj : ∀ i j, i < c.np → j < c.np → i ≠ j → c.L i ≠ c.L j
  cl : ∀ i j a, i < c.np → j < c.nl i → a < c.np → c.C i j ≠ c.L a

/-- what of it stays -/
structure Cf.Im (c : Cf) (w : World) (X G D : Nat) : Prop where
  bl1 : w.cell? ⟨c.BL, 1, none⟩ = some (.int .i64 0)
  bl9 : w.cell? ⟨c.BL, 9, none⟩ = some (.pointer (some ⟨c.T, 0, none⟩))
  bl269 : w.cell? ⟨c.BL, 269, none⟩ = some (.func (.func 17) #[] #[.pointer (some ⟨G, 0, none⟩), .pointer (some ⟨D, 0, none⟩), .pointer (some ⟨X, 0, none⟩)])
  t : w.rowIs c.T 91 2 (fun q => if q = 0 then .slice (some ⟨c.PR, 0, none⟩) c.np c.np else c.pv)
  us : 0 < c.np → Us w c.pv c.np c.pg c.U
  pr1 : ∀ i, i < c.np → w.cell? ⟨c.PR, i * 3 + 1, none⟩ = some (.slice (some ⟨c.L i, 0, none⟩) (c.nl i) (c.nl i))
  pr2 : ∀ i, i < c.np → w.cell? ⟨c.PR, i * 3 + 2, none⟩ = some (c.uv i)
  lus : ∀ i, i < c.np → 0 < c.nl i → Us w (c.uv i) (c.nl i) (c.ug i) (c.lU i)
  cs : ∀ i j e, i < c.np → j < c.nl i → e < c.k i j → w.cell? ⟨c.C i j, e, none⟩ = some (.pointer (some ⟨c.E i j e, 0, none⟩))

/-- M names none of its blocks -/
structure Cf.Av (c : Cf) (M : Nat → Prop) : Prop where
  bl : ¬ M c.BL
  t : ¬ M c.T
  pr : 0 < c.np → ¬ M c.PR
  pg : 0 < c.np → ¬ M c.pg
  ug : ∀ i, i < c.np → 0 < c.nl i → ¬ M (c.ug i)
  cs : ∀ i j, i < c.np → j < c.nl i → ¬ M (c.C i j)

theorem Cf.Im.fr {c : Cf} {w w' : World} {X G D : Nat} {M : Nat → Prop} (h : c.Im w X G D) (f : Fr M w w') (a : c.Av M) : c.Im w' X G D :=
  ⟨f.cell h.bl1 a.bl, f.cell h.bl9 a.bl, f.cell h.bl269 a.bl, f.row h.t a.t, fun q => (h.us q).fr f (a.pg q), fun i hi => f.cell (h.pr1 i hi) (a.pr (by omega)), fun i hi => f.cell (h.pr2 i hi) (a.pr (by omega)), fun i hi q => (h.lus i hi q).fr f (a.ug i hi q), fun i j e hi hj he => f.cell (h.cs i j e hi hj he) (a.cs i j hi hj)⟩

theorem Cf.Av.own {c : Cf} {w : World} {X G D : Nat} {lv lv1 : Value} (a : c.Av (Mv X G lv)) (hI : c.Im w X G D) (hP : c.Pure) (ho : Own lv lv1 w.heap.size) : c.Av (Mv X G lv1) :=
  ⟨fun m => a.bl (ho.mv (block_lt_of_cell hI.bl1) m), fun m => a.t (ho.mv hI.t.lt m), fun hn m => a.pr hn (ho.mv (block_lt_of_cell (hI.pr1 0 hn)) m), fun hn m => a.pg hn (ho.mv (block_lt_of_cell ((hI.us hn).num 0 hn)) m),
   fun i hi hn m => a.ug i hi hn (ho.mv (block_lt_of_cell ((hI.lus i hi hn).num 0 hn)) m), fun i j hi hj m => a.cs i j hi hj (ho.mv (block_lt_of_cell (hI.cs i j 0 hi hj (hP.k i j hi hj).1)) m)⟩

/-- the row of a priority's localities -/
def Cf.lrow (c : Cf) (tn : Nat → Nat → Nat) (i q : Nat) : Value := if q % 2 = 0 then .slice (some ⟨c.C i (q / 2), 0, none⟩) (c.k i (q / 2)) (c.k i (q / 2)) else .int .u64 (tn i (q / 2))

def Cf.Lr (c : Cf) (w : World) (tn : Nat → Nat → Nat) : Prop := ∀ i, i < c.np → w.rowIs (c.L i) 106 (c.nl i * 2) (c.lrow tn i)

def bump (tn : Nat → Nat → Nat) (a b : Nat) : Nat → Nat → Nat := fun i j => if i = a ∧ j = b then tn i j + 1 else tn i j

theorem Cf.Lr.fr {c : Cf} {w w' : World} {tn : Nat → Nat → Nat} {M : Nat → Prop} (h : c.Lr w tn) (f : Fr M w w') (a : ∀ i, i < c.np → ¬ M (c.L i)) : c.Lr w' tn := fun i hi => f.row (h i hi) (a i hi)

theorem Cf.Lr.bump {c : Cf} {w : World} {tn : Nat → Nat → Nat} (h : c.Lr w tn) (hp : c.Pure) {a b : Nat} (ha : a < c.np) (hb : b < c.nl a) : c.Lr (w.setCell ⟨c.L a, b * 2 + 1, none⟩ (.int .u64 (tn a b + 1 : Nat))) (bump tn a b) := by
  intro i hi
  by_cases e : i = a
  · subst e
    refine ((h i hi).set (b * 2 + 1) _).congr fun q hq => ?_
    unfold Cf.lrow Ybulkbdbe.bump
    by_cases hq2 : q = b * 2 + 1
    · subst hq2
      rw [if_pos rfl, if_neg (by omega), show (b * 2 + 1) / 2 = b by omega, if_pos ⟨rfl, rfl⟩]
    · rw [if_neg hq2]
      by_cases hq3 : q % 2 = 0
      · rw [if_pos hq3, if_pos hq3]
      · rw [if_neg hq3, if_neg hq3, if_neg (by omega)]
  · refine ((h i hi).setOther (a := ⟨c.L a, b * 2 + 1, none⟩) (hp.inj i a hi ha e) _).congr fun q hq => ?_
    unfold Cf.lrow Ybulkbdbe.bump
    rw [if_neg (fun hh : i = a ∧ q / 2 = b => e hh.1)]

/-- one choice, plainly -/
def Ch (c : Cf) (nd : Nat) (dz : Nat → Nat) (tn : Nat → Nat → Nat) (i : Nat) (xs : List Int) (res : Option Nat) (i' : Nat) (xs' : List Int) (tn' : Nat → Nat → Nat) : Prop :=
  (c.np = 0 ∧ res = none ∧ i' = i ∧ xs' = xs ∧ tn' = tn) ∨
  (0 < c.np ∧ ∃ pi i1 xs1, Pk c.U c.np nd dz i xs pi i1 xs1 ∧
    ((c.nl pi = 0 ∧ res = none ∧ i' = i1 ∧ xs' = xs1 ∧ tn' = tn) ∨
     (0 < c.nl pi ∧ ∃ li, Pk (c.lU pi) (c.nl pi) nd dz i1 xs1 li i' xs' ∧ res = some (c.E pi li (tn pi li % c.k pi li)) ∧ tn' = bump tn pi li)))

theorem Ch.unique {c : Cf} {nd : Nat} {dz : Nat → Nat} {tn t1 t2 : Nat → Nat → Nat} {i i1 i2 : Nat} {xs x1 x2 : List Int} {r1 r2 : Option Nat} (h : Ch c nd dz tn i xs r1 i1 x1 t1) (k : Ch c nd dz tn i xs r2 i2 x2 t2) : r1 = r2 ∧ i1 = i2 ∧ x1 = x2 ∧ t1 = t2 := by
  rcases h with ⟨h0, rfl, rfl, rfl, rfl⟩ | ⟨h0, pi, j, ys, hp, h⟩
  · rcases k with ⟨_, rfl, rfl, rfl, rfl⟩ | ⟨k0, _⟩
    · exact ⟨rfl, rfl, rfl, rfl⟩
    · omega
  · rcases k with ⟨k0, _⟩ | ⟨_, pi', j', ys', kp, k⟩
    · omega
    · obtain ⟨rfl, rfl, rfl⟩ := hp.unique kp
      rcases h with ⟨a, rfl, rfl, rfl, rfl⟩ | ⟨a, li, hl, rfl, rfl⟩
      · rcases k with ⟨_, rfl, rfl, rfl, rfl⟩ | ⟨b, _⟩
        · exact ⟨rfl, rfl, rfl, rfl⟩
        · omega
      · rcases k with ⟨b, _⟩ | ⟨_, li', kl, rfl, rfl⟩
        · omega
        · obtain ⟨rfl, rfl, rfl⟩ := hl.unique kl
          exact ⟨rfl, rfl, rfl, rfl⟩

theorem Ch.len {c : Cf} {nd : Nat} {dz : Nat → Nat} {tn t1 : Nat → Nat → Nat} {i i1 : Nat} {xs x1 : List Int} {r1 : Option Nat} (h : Ch c nd dz tn i xs r1 i1 x1 t1) : i1 ≤ i + 2 ∧ x1.length ≤ xs.length + 2 := by
  rcases h with ⟨_, _, rfl, rfl, _⟩ | ⟨_, pi, j, ys, hp, h⟩
  · omega
  · have := hp.len
    rcases h with ⟨_, _, rfl, rfl, _⟩ | ⟨_, li, hl, _, _⟩
    · omega
    · have := hl.len; omega

set_option maxHeartbeats 4000000 in
set_option maxRecDepth 100000 in
theorem choose_any (c : Cf) (w : World) (X G D base nd cd i : Nat) (pd : Option Addr) (dz : Nat → Nat) (lv : Value) (xs : List Int) (tn : Nat → Nat → Nat) (hP : c.Pure) (hI : c.Im w X G D) (hA : c.Av (Mv X G lv)) (hL : c.Lr w tn) (hLm : ∀ i, i < c.np → ¬ Mv X G lv (c.L i)) (hLd : ∀ i, i < c.np → c.L i < base ∧ c.L i ≠ X ∧ c.L i ≠ G ∧ c.L i ≠ D ∧ (0 < nd → ∀ a, pd = some a → a.block ≠ c.L i))
    (h : Dr w X G D base nd cd pd dz lv i xs) (hi : i + 2 < 1000) (hl : xs.length + 2 < 1000) (ht : ∀ i j, tn i j < 10000) :
    Calls Yba.prog 21 #[.pointer (some ⟨c.BL, 0, none⟩)] w fun e w' => ∃ res i' xs' tn' lv', e = .returned (.pointer (Option.map (fun b => (⟨b, 0, none⟩ : Addr)) res)) ∧ Ch c nd dz tn i xs res i' xs' tn' ∧ Dr w' X G D base nd cd pd dz lv' i' xs' ∧ c.Lr w' tn' ∧ Fr (fun b => Mv X G lv b ∨ ∃ i, i < c.np ∧ b = c.L i) w w' ∧ Own lv lv' w.heap.size := by
  have HT : Hid (Calls Yba.prog 32 #[.pointer (some ⟨c.BL, 9, none⟩)] w fun e w' => e = .returned (.pointer (some ⟨c.T, 0, none⟩)) ∧ w' = w) := loadT_any c.BL 9 c.T _ w hI.bl9 hI.t
  have cT0 : w.cell? ⟨c.T, 0, none⟩ = some (.slice (some ⟨c.PR, 0, none⟩) c.np c.np) := hI.t.cell (i := 0) (by omega)
  have cB269 := hI.bl269
  by_cases hn0 : c.np = 0
  · have HD : Hid (Dr w X G D base nd cd pd dz lv i xs ∧ c.Lr w tn) := ⟨h, hL⟩
    have hn0i : (c.np : Int) = 0 := by omega
    clear h hI hL hA hLm hP
    go_enter Yba.func21, Yba.ntmps21
    go_wp2_with (go_at_call 32; refine HT.out.mono ?_; rintro e w' ⟨rfl, rfl⟩)
    go_ret
    exact ⟨none, i, xs, tn, lv, rfl, .inl ⟨hn0, rfl, rfl, rfl, rfl⟩, HD.out.1, HD.out.2, Fr.refl _ _, Own.refl _ _⟩
  · have hpos : 0 < c.np := by omega
    have hnpi : ¬ (c.np : Int) = 0 := by omega
    have cT1 : w.cell? ⟨c.T, 1, none⟩ = some c.pv := hI.t.cell (i := 1) (by omega)
    have HC1 : Hid (Calls Yba.prog 33 #[.pointer (some ⟨c.T, 1, none⟩), .func (.func 17) #[] #[.pointer (some ⟨G, 0, none⟩), .pointer (some ⟨D, 0, none⟩), .pointer (some ⟨X, 0, none⟩)]] w.drew fun e w' => ∃ pi i' xs' lv', e = .returned (.int .i64 (pi : Nat)) ∧ pi < c.np ∧ (pi : Int) < (c.np : Int) ∧ w'.cell? ⟨c.T, 0, none⟩ = some (.slice (some ⟨c.PR, 0, none⟩) c.np c.np) ∧ Pk c.U c.np nd dz i xs pi i' xs' ∧ Dr w' X G D base nd cd pd dz lv' i' xs' ∧ Fr (Mv X G lv) w w' ∧ Own lv lv' w.heap.size) :=
      (pickW_any w.drew X G D base nd cd i pd dz lv xs c.T 1 c.np c.pg c.pv c.U h.drew (by omega) (by omega) cT1 hA.t ((hI.us hpos).fr (M := fun _ => False) (Fr.refl _ _).drew id) hP.up hpos hP.np (hA.pg hpos)).mono
        fun e w' ⟨pi, i', xs', lv', he, hpk, hd, hf, ho⟩ => ⟨pi, i', xs', lv', he, hpk.lt, by have := hpk.lt; omega, ((Fr.refl _ w).drew.trans hf).cell cT0 hA.t, hpk, hd, (Fr.refl _ w).drew.trans hf, ho⟩
    have HI : Hid (c.Im w X G D) := hI
    have HL : Hid (c.Lr w tn) := hL
    have hLb : ∀ i, i < c.np → c.L i < base ∧ c.L i ≠ X ∧ c.L i ≠ G ∧ c.L i ≠ D ∧ (0 < nd → ∀ a, pd = some a → a.block ≠ c.L i) := hLd
    clear h hI hL hLd
    go_enter Yba.func21, Yba.ntmps21
    go_wp2_with (go_at_call 32; refine HT.out.mono ?_; rintro e w ⟨rfl, rfl⟩)
    go_region_with (go_at_call 33; refine HC1.out.mono ?_; rintro e w1 ⟨pi, i1, xs1, lv1, rfl, hpi, hpii, cT0', hpk1, hd1, hf1, ho1⟩)
    all_goals
      have HI1 : Hid (c.Im w1 X G D) := HI.out.fr hf1 hA
      have HL1 : Hid (c.Lr w1 tn) := HL.out.fr hf1 hLm
      have hA1 : c.Av (Mv X G lv1) := hA.own HI.out hP ho1
      have hLm1 : ∀ i, i < c.np → ¬ Mv X G lv1 (c.L i) := fun i hi m => hLm i hi (ho1.mv (HL.out i hi).lt m)
      have cP1 := HI1.out.pr1 pi hpi
      have HPk1 : Hid (Pk c.U c.np nd dz i xs pi i1 xs1) := hpk1
      have HD1 : Hid (Dr w1 X G D base nd cd pd dz lv1 i1 xs1) := hd1
      have HF1 : Hid (Fr (Mv X G lv) w w1 ∧ Own lv lv1 w.heap.size) := ⟨hf1, ho1⟩
      have hlen1 := hpk1.len
      clear hpk1 hd1 hf1 ho1 cT0 cT0' cT1 cB269 HC1 HT
      by_cases hl0 : c.nl pi = 0
      · have hl0i : (c.nl pi : Int) = 0 := by omega
        clear hlen1
        go_wp2
        go_ret
        exact ⟨none, i1, xs1, tn, lv1, rfl, .inr ⟨hpos, pi, i1, xs1, HPk1.out, .inl ⟨hl0, rfl, rfl, rfl, rfl⟩⟩, HD1.out, HL1.out, HF1.out.1.mono (fun b _ m => Or.inl m), HF1.out.2⟩
      · have hlp : 0 < c.nl pi := by omega
        have hl0i : ¬ (c.nl pi : Int) = 0 := by omega
        have cB269' := HI1.out.bl269
        have cP2 := HI1.out.pr2 pi hpi
        have HC2 : Hid (Calls Yba.prog 33 #[.pointer (some ⟨c.PR, pi * 3 + 2, none⟩), .func (.func 17) #[] #[.pointer (some ⟨G, 0, none⟩), .pointer (some ⟨D, 0, none⟩), .pointer (some ⟨X, 0, none⟩)]] w1.drew fun e w' => ∃ li i' xs' lv', e = .returned (.int .i64 (li : Nat)) ∧ li < c.nl pi ∧ (li : Int) < (c.nl pi : Int) ∧ w'.cell? ⟨c.PR, pi * 3 + 1, none⟩ = some (.slice (some ⟨c.L pi, 0, none⟩) (c.nl pi) (c.nl pi)) ∧ Pk (c.lU pi) (c.nl pi) nd dz i1 xs1 li i' xs' ∧ Dr w' X G D base nd cd pd dz lv' i' xs' ∧ Fr (Mv X G lv1) w1 w' ∧ Own lv1 lv' w1.heap.size) :=
          (pickW_any w1.drew X G D base nd cd i1 pd dz lv1 xs1 c.PR (pi * 3 + 2) (c.nl pi) (c.ug pi) (c.uv pi) (c.lU pi) HD1.out.drew (by omega) (by omega) cP2 (hA1.pr hpos) ((HI1.out.lus pi hpi hlp).fr (M := fun _ => False) (Fr.refl _ _).drew id) (hP.lup pi hpi) hlp (hP.nl pi hpi) (hA1.ug pi hpi hlp)).mono
            fun e w' ⟨li, i', xs', lv', he, hpk, hd, hf, ho⟩ => ⟨li, i', xs', lv', he, hpk.lt, by have := hpk.lt; omega, ((Fr.refl _ w1).drew.trans hf).cell cP1 (hA1.pr hpos), hpk, hd, (Fr.refl _ w1).drew.trans hf, ho⟩
        clear hlen1 cP2
        go_wp2_with fail
        go_region_with (go_at_call 33; refine HC2.out.mono ?_; rintro e w2 ⟨li, i2, xs2, lv2, rfl, hli, hlii, cP1', hpk2, hd2, hf2, ho2⟩)
        all_goals
          have HI2 : Hid (c.Im w2 X G D) := HI1.out.fr hf2 hA1
          have HL2 : Hid (c.Lr w2 tn) := HL1.out.fr hf2 hLm1
          have bl1 := HI2.out.bl1
          have hrow := HL2.out pi hpi
          have cTn : w2.cell? ⟨c.L pi, li * 2 + 1, none⟩ = some (.int .u64 (tn pi li : Nat)) := by
            have := hrow.cell (i := li * 2 + 1) (by omega)
            rw [this]; unfold Cf.lrow
            rw [if_neg (by omega), show (li * 2 + 1) / 2 = li by omega]
          have fTn := hrow.frozen (li * 2 + 1)
          have HAd : Hid (Calls Yba.prog 35 #[.pointer (some ⟨c.L pi, li * 2 + 1, none⟩), .int .u64 1] w2 fun e w' => e = .returned (.int .u64 (tn pi li + 1 : Nat)) ∧ w' = w2.setCell ⟨c.L pi, li * 2 + 1, none⟩ (.int .u64 (tn pi li + 1 : Nat))) := add64_any _ _ _ w2 (by have := ht pi li; omega) cTn fTn
          have hL3 := HL2.out.bump hP hpi hli
          have hM3 : Fr (fun b => b = c.L pi) w2 (w2.setCell ⟨c.L pi, li * 2 + 1, none⟩ (.int .u64 (tn pi li + 1 : Nat))) := Fr.setCell (M := fun b => b = c.L pi) (Fr.refl _ w2) (p := ⟨c.L pi, li * 2 + 1, none⟩) rfl _
          obtain ⟨hk0, hk1⟩ := hP.k pi li hpi hli
          have hmodlt : tn pi li % c.k pi li < c.k pi li := Nat.mod_lt _ hk0
          have cE := HI2.out.cs pi li _ hpi hli hmodlt
          have htn := ht pi li
          have hFin : Fr (fun b => Mv X G lv b ∨ ∃ i, i < c.np ∧ b = c.L i) w (w2.setCell ⟨c.L pi, li * 2 + 1, none⟩ (.int .u64 (tn pi li + 1 : Nat))) :=
            ((HF1.out.1.trans' hf2 (fun b hb m => HF1.out.2.mv hb m)).mono (fun b _ m => Or.inl m)).trans' hM3 (fun b _ m => .inr ⟨pi, hpi, m⟩)
          have hD3 : Dr (w2.setCell ⟨c.L pi, li * 2 + 1, none⟩ (.int .u64 (tn pi li + 1 : Nat))) X G D base nd cd pd dz lv2 i2 xs2 := hd2.fr hM3 (fun e => (hLb pi hpi).2.1 e.symm) (fun e => (hLb pi hpi).2.2.1 e.symm) (fun e => (hLb pi hpi).2.2.2.1 e.symm) (fun k hk e => by have := (hd2.ownge hk).1; have := (hLb pi hpi).1; omega) (fun hn a ha e => (hLb pi hpi).2.2.2.2 hn a ha e)
          have HEnd : Hid (Ch c nd dz tn i xs (some (c.E pi li (tn pi li % c.k pi li))) i2 xs2 (bump tn pi li) ∧ Own lv lv2 w.heap.size) :=
            ⟨.inr ⟨hpos, pi, i1, xs1, HPk1.out, .inr ⟨hlp, li, hpk2, rfl, rfl⟩⟩, HF1.out.2.trans ho2 HF1.out.1.size⟩
          have cE3 := hM3.cell cE (hP.cl pi li pi hpi hli hpi)
          have cC3 : (w2.setCell ⟨c.L pi, li * 2 + 1, none⟩ (.int .u64 (tn pi li + 1 : Nat))).cell? ⟨c.L pi, li * 2, none⟩ = some (.slice (some ⟨c.C pi li, 0, none⟩) (c.k pi li) (c.k pi li)) := by
            have := (hL3 pi hpi).cell (i := li * 2) (by omega)
            rw [this]; unfold Cf.lrow
            rw [if_pos (by omega), show li * 2 / 2 = li by omega]
          clear hpk2 hd2 hf2 ho2 hM3 cE hrow cTn fTn cP1 cP1' HC2 cB269'
          go_wp2_with fail
          refine HAd.out.mono ?_
          rintro e w3 ⟨rfl, hw3⟩
          rw [← hw3] at hFin hD3 cE3 cC3 hL3
          have HE3 : Hid (Fr (fun b => Mv X G lv b ∨ ∃ i, i < c.np ∧ b = c.L i) w w3 ∧ Dr w3 X G D base nd cd pd dz lv2 i2 xs2 ∧ c.Lr w3 (bump tn pi li)) := ⟨hFin, hD3, hL3⟩
          clear hw3 HAd hFin hD3 hL3
          have hki : (c.k pi li : Int) < 1000 := by omega
          have hk0i : (0 : Int) < (c.k pi li : Int) := by omega
          have hk0n : ¬ (c.k pi li : Int) = 0 := by omega
          have hk0m : ¬ c.k pi li = 0 := by omega
          have hk0b : ((c.k pi li : Int) == 0) = false := by simp [hk0m]
          have htni : (tn pi li : Int) < 10000 := by omega
          have hwk : IntKind.u64.wrap (c.k pi li : Int) = (c.k pi li : Int) := by rw [IntKind.wrap_u64]; omega
          have hmod : ((tn pi li : Nat) : Int).tmod (c.k pi li : Int) = ((tn pi li % c.k pi li : Nat) : Int) := by
            rw [Int.tmod_eq_emod_of_nonneg (by omega)]; omega
          have hmod2 : ((tn pi li : Nat) : Int) % (c.k pi li : Int) = ((tn pi li % c.k pi li : Nat) : Int) := by omega
          generalize hq : tn pi li % c.k pi li = q at *
          have hqi : (q : Int) < (c.k pi li : Int) := by omega
          clear hq
          go_wp2_with fail
          go_quiet (fail)
          go_wp2
          go_ret
          exact ⟨some (c.E pi li q), i2, xs2, _, lv2, rfl, HEnd.out.1, HE3.out.2.1.fr (M := fun _ => False) ((Fr.refl _ _).drewN _) id id id (fun _ _ => id) (fun _ _ _ => id), HE3.out.2.2.fr (M := fun _ => False) ((Fr.refl _ _).drewN _) (fun _ _ => id), HE3.out.1.drewN _, HEnd.out.2⟩

end Go.Proofs.Ybulkbdbe
