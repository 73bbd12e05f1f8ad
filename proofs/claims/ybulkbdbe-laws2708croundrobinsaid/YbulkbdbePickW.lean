import Derived.Test.YbulkbdbePicks
namespace Go.Proofs.Ybulkbdbe
open Go.RowKit Go.Deep
set_option linter.unusedVariables false

set_option maxHeartbeats 2000000 in
set_option maxRecDepth 100000 in
theorem pickW_any (w : World) (X G D base nd cd i : Nat) (pd : Option Addr) (dz : Nat → Nat) (lv : Value) (xs : List Int) (cb co m g : Nat) (v : Value) (U : Nat → Nat) (h : Dr w X G D base nd cd pd dz lv i xs) (hi : i < 1000) (hl : xs.length < 1000)
    (hK : w.cell? ⟨cb, co, none⟩ = some v) (hcb : ¬ Mv X G lv cb) (hU : Us w v m g U) (hup : Up m U) (hm : 0 < m) (hmb : m < 1000) (hg : ¬ Mv X G lv g) :
    Calls Yba.prog 33 #[.pointer (some ⟨cb, co, none⟩), .func (.func 17) #[] #[.pointer (some ⟨G, 0, none⟩), .pointer (some ⟨D, 0, none⟩), .pointer (some ⟨X, 0, none⟩)]] w fun e w' => ∃ idx i' xs' lv', e = .returned (.int .i64 (idx : Nat)) ∧ Pk U m nd dz i xs idx i' xs' ∧ Dr w' X G D base nd cd pd dz lv' i' xs' ∧ Fr (Mv X G lv) w w' ∧ Own lv lv' w.heap.size := by
  obtain ⟨c, rfl⟩ := hU.val
  by_cases h1 : m = 1
  · subst h1
    have HD : Hid (Dr w X G D base nd cd pd dz lv i xs) := h
    clear h hU hup
    go_enter Yba.func33, Yba.ntmps33
    go_wp2
    go_ret
    exact ⟨0, i, xs, lv, rfl, .inl ⟨rfl, rfl, rfl, rfl⟩, HD.out, Fr.refl _ _, Own.refl _ _⟩
  · have HC : Hid (Calls Yba.prog 17 #[.int .u64 (U (m - 1) : Nat), .pointer (some ⟨G, 0, none⟩), .pointer (some ⟨D, 0, none⟩), .pointer (some ⟨X, 0, none⟩)] w.drew fun e w' => e = .returned (.int .u64 (dv nd dz i % U (m - 1) : Nat)) ∧ ∃ lv', Dr w' X G D base nd cd pd dz lv' (i + 1) (xs ++ [(U (m - 1) : Int)]) ∧ Fr (Mv X G lv) w.drew w' ∧ Own lv lv' w.drew.heap.size) :=
      draw17_dr w.drew X G D base nd cd i (U (m - 1)) pd dz lv xs h.drew hi hl (hup.pos _ (by omega)) (by have := hup.big (m - 1) (by omega); omega)
    have hlast := hU.num (m - 1) (by omega)
    have hr : dv nd dz i % U (m - 1) < U (m - 1) := Nat.mod_lt _ (hup.pos _ (by omega))
    have hm1 : ¬ (m : Int) = 1 := by omega
    have HU : Hid (Us w (.slice (some ⟨g, 0, none⟩) m c) m g U) := hU
    have HUp : Hid (Up m U) := hup
    have hmi : (m : Int) < 1000 := by omega
    clear h hU hup
    obtain ⟨r, hrr⟩ : ∃ r, r = dv nd dz i % U (m - 1) := ⟨_, rfl⟩
    have HR : Hid (dv nd dz i % U (m - 1) = r) := hrr.symm
    rw [← hrr] at HC hr
    clear hrr
    have hw65 : (m : Int) - 1 = ((m - 1 : Nat) : Int) := by omega
    have hkm : m - 1 < m := by omega
    generalize hke : m - 1 = k at *
    have HKm : Hid (m - 1 = k) := hke
    clear hke
    have hkm' : (k : Int) < (m : Int) := by omega
    have hw66 : IntKind.i64.wrap (k : Int) = (k : Int) := wrap_nat k (by omega)
    go_enter Yba.func33, Yba.ntmps33
    go_wp2_with fail
    go_region_with (go_at_call 17; refine HC.out.mono ?_; rintro e w1 ⟨rfl, lv', hd1, hf1, ho1⟩)
    all_goals
      have hf2 : Fr (Mv X G lv) w w1 := (Fr.refl _ w).drew.trans hf1
      have HU1 : Hid (Us w1 (.slice (some ⟨g, 0, none⟩) m c) m g U) := HU.out.fr hf2 hg
      have HEnd : Hid (Dr w1 X G D base nd cd pd dz lv' (i + 1) (xs ++ [(U k : Int)]) ∧ Fr (Mv X G lv) w w1 ∧ Own lv lv' w.heap.size) := ⟨hd1, hf2, ho1⟩
      have hK1 : w1.cell? ⟨cb, co, none⟩ = some (.slice (some ⟨g, 0, none⟩) m c) := hf2.cell hK hcb
      clear hf1 hf2 hd1 ho1 HC HU hg hlast hK
      go_wp2_with fail
      go_quiet (fail)
      go_wp2_with fail
      go_loopw [6, 7] (fun lov hiv wr => ∃ lo hi nn : Nat, lov = .int .i64 lo ∧ hiv = .int .i64 hi ∧ lo ≤ hi ∧ hi < m ∧ wr = w1.drewN nn ∧ (∀ p, p < lo → U p ≤ r) ∧ r < U hi) (fun lov hiv _ => (intOf hiv).toNat - (intOf lov).toNat)
      case atStart => exact ⟨0, k, _, rfl, rfl, by omega, hkm, rfl, fun p hp => by omega, hr⟩
      case round =>
        obtain ⟨lo, hi, nn, rfl, rfl, hlh, hhm, rfl, hall, hhi⟩ := hrel
        have HAll : Hid (∀ p, p < lo → U p ≤ r) := hall
        have HHi : Hid (r < U hi) := hhi
        clear hall hhi
        by_cases hlt : lo < hi
        · have hlti : (lo : Int) < (hi : Int) := by omega
          have hmid : (lo + hi) / 2 < m := by omega
          have hmidi : ((lo : Int) + (hi : Int)) / 2 < (m : Int) := by omega
          have hmid0 : 0 ≤ ((lo : Int) + (hi : Int)) / 2 := by omega
          have hmt : (((lo : Int) + (hi : Int)) / 2).toNat = (lo + hi) / 2 := by omega
          have hlo' : (lo : Int) < 1000 := by omega
          have hhi' : (hi : Int) < 1000 := by omega
          have hc := HU1.out.num ((lo + hi) / 2) hmid
          have hme : ((lo : Int) + (hi : Int)) / 2 = (((lo + hi) / 2 : Nat) : Int) := by omega
          generalize hmm : (lo + hi) / 2 = mid at *
          have HM : Hid (lo ≤ mid ∧ mid < hi) := ⟨by omega, by omega⟩
          clear hmm hmt hmid0
          by_cases hgt : r < U mid
          · have hgi : (r : Int) < (U mid : Int) := by omega
            go_wp2
            go_roundw
            case rel => exact ⟨lo, mid, nn, rfl, by go_num, HM.out.1, hmid, by first | rfl | trivial, HAll.out, hgt⟩
            case measure => have := HM.out; simp [intOf]; omega
          · have hgi : (U mid : Int) ≤ (r : Int) := by omega
            have hgn : ¬ (r : Int) < (U mid : Int) := by omega
            go_wp2
            go_roundw
            case rel => exact ⟨mid + 1, hi, nn, by go_num, rfl, by have := HM.out; omega, hhm, by first | rfl | trivial, fun p hp => by
              have h1 := HUp.out.mono p mid (by omega) hmid
              omega, HHi.out⟩
            case measure => have := HM.out; simp [intOf]; omega
        · have hle : lo = hi := by omega
          subst hle
          have hge : ¬ (lo : Int) < (lo : Int) := by omega
          go_wp2
          go_ret
          exact ⟨lo, rfl, i + 1, _, .inr ⟨h1, hhm, by rw [HKm.out, HR.out]; exact HHi.out, fun p hp => by rw [HKm.out, HR.out]; exact HAll.out p hp, rfl, by rw [HKm.out]⟩, lv', HEnd.out.1.fr (M := fun _ => False) ((Fr.refl _ _).drewN nn) id id id (fun _ _ => id) (fun _ _ _ => id), HEnd.out.2.1.drewN nn, HEnd.out.2.2⟩

end Go.Proofs.Ybulkbdbe
