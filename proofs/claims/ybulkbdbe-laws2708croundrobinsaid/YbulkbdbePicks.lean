import Derived.Test.YbulkbdbeFr
import Derived.BigRegion
namespace Go.Proofs.Ybulkbdbe
open Go.RowKit Go.Deep
set_option linter.unusedVariables false

theorem wrap_nat (k : Nat) (h : k < 1000000) : IntKind.i64.wrap (k : Int) = (k : Int) := by
  simp [IntKind.wrap, IntKind.bits, IntKind.signed]
  omega

theorem drewN_zero (w : World) : w.drewN 0 = w := rfl

/-- all that a drawing closure rests on -/
structure Dr (w : World) (X G D base nd cd : Nat) (pd : Option Addr) (dz : Nat → Nat) (lv : Value) (i : Nat) (xs : List Int) : Prop where
  dw : Dw w X G base lv i xs
  ds : Ds w D nd pd cd dz
  hb : base ≤ w.heap.size
  ne : X < base ∧ G < base ∧ X ≠ G ∧ D ≠ X ∧ D ≠ G ∧ D < base
  da : 0 < nd → ∀ a, pd = some a → a.block < base ∧ a.block ≠ X ∧ a.block ≠ G

/-- what a draw may write -/
def Mv (X G : Nat) (lv : Value) (b : Nat) : Prop := b = X ∨ b = G ∨ some b = lv.ownBlock

/-- the row that is owned is the one that was, or a new one -/
def Own (lv lv' : Value) (n : Nat) : Prop := lv'.ownBlock = lv.ownBlock ∨ ∃ g, lv'.ownBlock = some g ∧ n ≤ g

theorem Own.refl (lv : Value) (n : Nat) : Own lv lv n := .inl rfl

theorem add_block (a : Addr) (q : Nat) : (a.add q).block = a.block := by unfold Addr.add; split <;> rfl

theorem Ds.fr {w w' : World} {D nd cd : Nat} {pd : Option Addr} {dz : Nat → Nat} {M : Nat → Prop} (h : Ds w D nd pd cd dz) (f : Fr M w w') (hD : ¬ M D) (ha : 0 < nd → ∀ a, pd = some a → ¬ M a.block) : Ds w' D nd pd cd dz :=
  ⟨f.cell h.cell hD, fun q hq => by
    obtain ⟨a, e, hc⟩ := h.num q hq
    exact ⟨a, e, f.cell hc (by rw [add_block]; exact ha (by omega) a e)⟩⟩

theorem Dr.fr {w w' : World} {X G D base nd cd i : Nat} {pd : Option Addr} {dz : Nat → Nat} {lv : Value} {xs : List Int} {M : Nat → Prop} (h : Dr w X G D base nd cd pd dz lv i xs) (f : Fr M w w')
    (hX : ¬ M X) (hG : ¬ M G) (hD : ¬ M D) (ho : ∀ k, lv.ownBlock = some k → ¬ M k) (ha : 0 < nd → ∀ a, pd = some a → ¬ M a.block) : Dr w' X G D base nd cd pd dz lv i xs :=
  ⟨⟨f.row h.dw.x hX, f.row h.dw.g hG, f.owns h.dw.own ho⟩, h.ds.fr f hD ha, Nat.le_trans h.hb f.size, h.ne, h.da⟩

theorem Dr.drew {w : World} {X G D base nd cd i : Nat} {pd : Option Addr} {dz : Nat → Nat} {lv : Value} {xs : List Int} (h : Dr w X G D base nd cd pd dz lv i xs) : Dr w.drew X G D base nd cd pd dz lv i xs :=
  h.fr (M := fun _ => False) (Fr.refl _ _).drew id id id (fun _ _ => id) (fun _ _ _ => id)

theorem Dr.ownge {w : World} {X G D base nd cd i : Nat} {pd : Option Addr} {dz : Nat → Nat} {lv : Value} {xs : List Int} (h : Dr w X G D base nd cd pd dz lv i xs) {k : Nat} (hk : lv.ownBlock = some k) : base ≤ k ∧ k < w.heap.size := h.dw.own.lt k hk

/-- the numbers of a row: m of them, in block g -/
structure Us (w : World) (v : Value) (m g : Nat) (U : Nat → Nat) : Prop where
  val : ∃ c, v = .slice (some ⟨g, 0, none⟩) m c
  num : ∀ q, q < m → w.cell? ⟨g, q, none⟩ = some (.int .u64 (U q))

theorem Us.fr {w w' : World} {v : Value} {m g : Nat} {U : Nat → Nat} {M : Nat → Prop} (h : Us w v m g U) (f : Fr M w w') (hg : ¬ M g) : Us w' v m g U :=
  ⟨h.val, fun q hq => f.cell (h.num q hq) hg⟩

/-- sums that grow, from 1 to less than 2^32 -/
structure Up (m : Nat) (U : Nat → Nat) : Prop where
  pos : ∀ q, q < m → 0 < U q
  big : ∀ q, q < m → U q < 4294967296
  mono : ∀ p q, p ≤ q → q < m → U p ≤ U q

/-- what a pick comes to -/
def Pk (U : Nat → Nat) (m nd : Nat) (dz : Nat → Nat) (i : Nat) (xs : List Int) (idx i' : Nat) (xs' : List Int) : Prop :=
  (m = 1 ∧ idx = 0 ∧ i' = i ∧ xs' = xs) ∨
  (m ≠ 1 ∧ idx < m ∧ dv nd dz i % U (m - 1) < U idx ∧ (∀ q, q < idx → U q ≤ dv nd dz i % U (m - 1)) ∧ i' = i + 1 ∧ xs' = xs ++ [(U (m - 1) : Int)])

theorem Pk.lt {U : Nat → Nat} {m nd : Nat} {dz : Nat → Nat} {i : Nat} {xs xs' : List Int} {idx i' : Nat} (h : Pk U m nd dz i xs idx i' xs') : idx < m := by
  rcases h with ⟨a, b, _⟩ | ⟨_, b, _⟩ <;> omega

theorem Pk.unique {U : Nat → Nat} {m nd : Nat} {dz : Nat → Nat} {i : Nat} {xs xs1 xs2 : List Int} {a1 a2 i1 i2 : Nat} (h : Pk U m nd dz i xs a1 i1 xs1) (k : Pk U m nd dz i xs a2 i2 xs2) : a1 = a2 ∧ i1 = i2 ∧ xs1 = xs2 := by
  rcases h with ⟨m1, h2, h3, h4⟩ | ⟨m1, h2, h3, h4, h5, h6⟩
  · rcases k with ⟨n1, k2, k3, k4⟩ | ⟨n1, _⟩
    · exact ⟨by omega, by omega, by rw [h4, k4]⟩
    · exact absurd m1 n1
  · rcases k with ⟨n1, _⟩ | ⟨n1, k2, k3, k4, k5, k6⟩
    · exact absurd n1 m1
    · refine ⟨?_, by omega, by rw [h6, k6]⟩
      rcases Nat.lt_trichotomy a1 a2 with c | c | c
      · have := k4 a1 c; omega
      · exact c
      · have := h4 a2 c; omega

theorem Pk.len {U : Nat → Nat} {m nd : Nat} {dz : Nat → Nat} {i : Nat} {xs xs' : List Int} {idx i' : Nat} (h : Pk U m nd dz i xs idx i' xs') : i' ≤ i + 1 ∧ xs'.length ≤ xs.length + 1 := by
  rcases h with ⟨_, _, a, b⟩ | ⟨_, _, _, _, a, b⟩
  · rw [a, b]; omega
  · rw [a, b]; simp

theorem draw17_dr (w : World) (X G D base nd cd i N : Nat) (pd : Option Addr) (dz : Nat → Nat) (lv : Value) (xs : List Int) (h : Dr w X G D base nd cd pd dz lv i xs) (hi : i < 1000) (hl : xs.length < 1000) (hN : 0 < N) (hN2 : N < 18446744073709551616) :
    Calls Yba.prog 17 #[.int .u64 N, .pointer (some ⟨G, 0, none⟩), .pointer (some ⟨D, 0, none⟩), .pointer (some ⟨X, 0, none⟩)] w fun e w' => e = .returned (.int .u64 (dv nd dz i % N : Nat)) ∧ ∃ lv', Dr w' X G D base nd cd pd dz lv' (i + 1) (xs ++ [(N : Int)]) ∧ Fr (Mv X G lv) w w' ∧ Own lv lv' w.heap.size :=
  (draw17 w X G D base nd cd i N pd dz lv xs h.dw h.ds h.hb h.ne.1 h.ne.2.1 h.ne.2.2.1 h.ne.2.2.2.1 h.ne.2.2.2.2.1 h.ne.2.2.2.2.2 h.da hi hl hN hN2).mono fun e w' ⟨he, lv', hdw, hfr, hat⟩ =>
    ⟨he, lv', ⟨hdw, h.ds.fr hfr (fun e => by
      rcases e with e | e | e
      · exact h.ne.2.2.2.1 e
      · exact h.ne.2.2.2.2.1 e
      · have := (h.ownge e.symm).1; have := h.ne.2.2.2.2.2; omega) (fun hn a ha e => by
      have hab := h.da hn a ha
      rcases e with e | e | e
      · exact hab.2.1 e
      · exact hab.2.2 e
      · have := (h.ownge e.symm).1; omega), Nat.le_trans h.hb hfr.size, h.ne, h.da⟩, hfr, hat⟩

theorem draw19_dr (w : World) (X G D base nd cd i N : Nat) (pd : Option Addr) (dz : Nat → Nat) (lv : Value) (xs : List Int) (h : Dr w X G D base nd cd pd dz lv i xs) (hi : i < 1000) (hl : xs.length < 1000) (hN : 0 < N) (hN2 : N < 18446744073709551616) :
    Calls Yba.prog 19 #[.int .u64 N, .pointer (some ⟨G, 0, none⟩), .pointer (some ⟨D, 0, none⟩), .pointer (some ⟨X, 0, none⟩)] w fun e w' => e = .returned (.int .u64 (dv nd dz i % N : Nat)) ∧ ∃ lv', Dr w' X G D base nd cd pd dz lv' (i + 1) (xs ++ [(N : Int)]) ∧ Fr (Mv X G lv) w w' ∧ Own lv lv' w.heap.size :=
  (draw19 w X G D base nd cd i N pd dz lv xs h.dw h.ds h.hb h.ne.1 h.ne.2.1 h.ne.2.2.1 h.ne.2.2.2.1 h.ne.2.2.2.2.1 h.ne.2.2.2.2.2 h.da hi hl hN hN2).mono fun e w' ⟨he, lv', hdw, hfr, hat⟩ =>
    ⟨he, lv', ⟨hdw, h.ds.fr hfr (fun e => by
      rcases e with e | e | e
      · exact h.ne.2.2.2.1 e
      · exact h.ne.2.2.2.2.1 e
      · have := (h.ownge e.symm).1; have := h.ne.2.2.2.2.2; omega) (fun hn a ha e => by
      have hab := h.da hn a ha
      rcases e with e | e | e
      · exact hab.2.1 e
      · exact hab.2.2 e
      · have := (h.ownge e.symm).1; omega), Nat.le_trans h.hb hfr.size, h.ne, h.da⟩, hfr, hat⟩

set_option maxHeartbeats 1000000 in
set_option maxRecDepth 100000 in
theorem pickM_any (w : World) (X G D base nd cd i : Nat) (pd : Option Addr) (dz : Nat → Nat) (lv : Value) (xs : List Int) (K m g : Nat) (v : Value) (U : Nat → Nat) (h : Dr w X G D base nd cd pd dz lv i xs) (hi : i < 1000) (hl : xs.length < 1000)
    (hK : w.cell? ⟨K, 0, none⟩ = some (.func (.func 19) #[] #[.pointer (some ⟨G, 0, none⟩), .pointer (some ⟨D, 0, none⟩), .pointer (some ⟨X, 0, none⟩)])) (hU : Us w v m g U) (hup : Up m U) (hm : 0 < m) (hmb : m < 1000) (hg : ¬ Mv X G lv g) :
    Calls Yba.prog 20 #[v, .pointer (some ⟨K, 0, none⟩)] w fun e w' => ∃ idx i' xs' lv', e = .returned (.int .i64 (idx : Nat)) ∧ Pk U m nd dz i xs idx i' xs' ∧ Dr w' X G D base nd cd pd dz lv' i' xs' ∧ Fr (Mv X G lv) w w' ∧ Own lv lv' w.heap.size := by
  obtain ⟨c, rfl⟩ := hU.val
  by_cases h1 : m = 1
  · subst h1
    have HD : Hid (Dr w X G D base nd cd pd dz lv i xs) := h
    clear h hU hup hK
    go_enter Yba.func20, Yba.ntmps20
    go_wp2
    go_ret
    exact ⟨0, i, xs, lv, rfl, .inl ⟨rfl, rfl, rfl, rfl⟩, HD.out, Fr.refl _ _, Own.refl _ _⟩
  · have HC : Hid (Calls Yba.prog 19 #[.int .u64 (U (m - 1) : Nat), .pointer (some ⟨G, 0, none⟩), .pointer (some ⟨D, 0, none⟩), .pointer (some ⟨X, 0, none⟩)] w.drew fun e w' => e = .returned (.int .u64 (dv nd dz i % U (m - 1) : Nat)) ∧ ∃ lv', Dr w' X G D base nd cd pd dz lv' (i + 1) (xs ++ [(U (m - 1) : Int)]) ∧ Fr (Mv X G lv) w.drew w' ∧ Own lv lv' w.drew.heap.size) :=
      draw19_dr w.drew X G D base nd cd i (U (m - 1)) pd dz lv xs h.drew hi hl (hup.pos _ (by omega)) (by have := hup.big (m - 1) (by omega); omega)
    have hlast := hU.num (m - 1) (by omega)
    have hr : dv nd dz i % U (m - 1) < U (m - 1) := Nat.mod_lt _ (hup.pos _ (by omega))
    have hm1 : ¬ (m : Int) = 1 := by omega
    have hm2 : ((m - 1 : Nat) : Int) = (m : Int) - 1 := by omega
    have hm3 : ((m : Int) - 1).toNat = m - 1 := by omega
    have HU : Hid (Us w (.slice (some ⟨g, 0, none⟩) m c) m g U) := hU
    have hmi : (m : Int) < 1000 := by omega
    have hm4 : (0 : Int) ≤ (m : Int) - 1 := by omega
    have hm5 : (m : Int) - 1 < (m : Int) := by omega
    clear h hU hup hm2
    obtain ⟨r, hrr⟩ : ∃ r, r = dv nd dz i % U (m - 1) := ⟨_, rfl⟩
    have HR : Hid (dv nd dz i % U (m - 1) = r) := hrr.symm
    rw [← hrr] at HC hr
    clear hrr
    have hw65 : (m : Int) - 1 = ((m - 1 : Nat) : Int) := by omega
    have hkm : m - 1 < m := by omega
    generalize hke : m - 1 = k at *
    have HKm : Hid (m - 1 = k) := hke
    clear hke
    have hkm' : (k : Int) < (m : Int) := by omega
    have hw66 : IntKind.i64.wrap (k : Int) = (k : Int) := wrap_nat k (by omega)
    clear hm3 hm4 hm5
    go_enter Yba.func20, Yba.ntmps20
    go_wp2_with fail
    go_region_with (go_at_call 19; refine HC.out.mono ?_; rintro e w1 ⟨rfl, lv', hd1, hf1, ho1⟩)
    all_goals
      have hf2 : Fr (Mv X G lv) w w1 := (Fr.refl _ w).drew.trans hf1
      have HU1 : Hid (Us w1 (.slice (some ⟨g, 0, none⟩) m c) m g U) := HU.out.fr hf2 hg
      have HEnd : Hid (Dr w1 X G D base nd cd pd dz lv' (i + 1) (xs ++ [(U k : Int)]) ∧ Fr (Mv X G lv) w w1 ∧ Own lv lv' w.heap.size) := ⟨hd1, hf2, ho1⟩
      clear hf1 hf2 hd1 ho1 HC HU hg hlast hK
      go_wp2_with fail
      go_loopw [20] (fun iv wr => ∃ q : Nat, iv = .int .i64 q ∧ q ≤ m ∧ wr = w1 ∧ ∀ p, p < q → U p ≤ r) (fun iv _ => m - (intOf iv).toNat)
      case atStart => exact ⟨0, rfl, by omega, rfl, fun p hp => by omega⟩
      case round =>
        obtain ⟨q, rfl, hq, rfl, hall⟩ := hrel
        have HAll : Hid (∀ p, p < q → U p ≤ r) := hall
        clear hall
        by_cases hqm : q < m
        · have hqi : (q : Int) < (m : Int) := by omega
          have hc := HU1.out.num q hqm
          by_cases hgt : r < U q
          · have hgi : (r : Int) < (U q : Int) := by omega
            go_wp2
            go_ret
            exact ⟨q, i + 1, _, lv', rfl, .inr ⟨h1, hqm, by rw [HKm.out, HR.out]; exact hgt, fun p hp => by rw [HKm.out, HR.out]; exact HAll.out p hp, rfl, by rw [HKm.out]⟩, HEnd.out⟩
          · have hgi : (U q : Int) ≤ (r : Int) := by omega
            have hgn : ¬ (r : Int) < (U q : Int) := by omega
            go_wp2
            go_roundw
            case rel => exact ⟨q + 1, by go_num, by omega, by first | rfl | trivial, fun p hp => by
              rcases Nat.lt_or_ge p q with c | c
              · exact HAll.out p c
              · have : p = q := by omega
                subst this; omega⟩
            case measure => simp [intOf]; omega
        · exfalso
          have := HAll.out k (by omega)
          omega

end Go.Proofs.Ybulkbdbe
