import Derived.Test.YbulkbdbeChosen
namespace Go.Proofs.Ybulkbdbe
open Go.RowKit Go.Deep
set_option linter.unusedVariables false

theorem owns_slice {w : World} {base : Nat} {v : Value} {xs : List Int} (h : w.ownsRow base 33 1 v xs.length (xs.map (Value.int .u64))) :
    (xs = [] ∧ ∃ p c, v = .slice p 0 c) ∨ ∃ g c, v = .slice (some ⟨g, 0, none⟩) xs.length c ∧ ∀ q, q < xs.length → w.cell? ⟨g, q, none⟩ = some (.int .u64 (xs.getD q 0)) := by
  rcases h.2 with ⟨rfl, q⟩ | ⟨g, cap, cur, rfl, hb, hg, rest⟩
  · exact .inl ⟨List.eq_nil_of_length_eq_zero q, _, _, rfl⟩
  · refine .inr ⟨g, cap, rfl, fun q hq => ?_⟩
    have := h.cells (g := g) rfl q (.int .u64 (xs.getD q 0)) (by simp [List.getElem?_map, List.getD, List.getElem?_eq_getElem hq])
    rw [Addr.add_lit, Nat.zero_add] at this
    exact this

set_option maxHeartbeats 1000000 in
theorem same_nil (p1 p2 : Option Addr) (c1 c2 : Nat) (w : World) : Calls Yba.prog 22 #[.slice p1 0 c1, .slice p2 0 c2] w fun e w' => e = .returned (.bool true) ∧ Fr (fun _ => False) w w' := by
  go_enter Yba.func22, Yba.ntmps22
  go_wp2_with fail
  refine wp_loop_rounds 1 ?_
  rw [rounds_succ]
  go_wp2
  go_ret
  exact ⟨rfl, Fr.refl _ _⟩

set_option maxHeartbeats 1000000 in
theorem same_row (g1 g2 c1 c2 n : Nat) (f : Nat → Int) (w : World) (hn : n < 1000) (h1 : ∀ q, q < n → w.cell? ⟨g1, q, none⟩ = some (.int .u64 (f q))) (h2 : ∀ q, q < n → w.cell? ⟨g2, q, none⟩ = some (.int .u64 (f q))) :
    Calls Yba.prog 22 #[.slice (some ⟨g1, 0, none⟩) n c1, .slice (some ⟨g2, 0, none⟩) n c2] w fun e w' => e = .returned (.bool true) ∧ Fr (fun _ => False) w w' := by
  have H1 : Hid (∀ q, q < n → w.cell? ⟨g1, q, none⟩ = some (.int .u64 (f q))) := h1
  have H2 : Hid (∀ q, q < n → w.cell? ⟨g2, q, none⟩ = some (.int .u64 (f q))) := h2
  clear h1 h2
  have hni : (n : Int) < 1000 := by omega
  go_enter Yba.func22, Yba.ntmps22
  go_wp2_with fail
  go_loopw [13] (fun iv wr => ∃ q : Nat, iv = .int .i64 q ∧ q ≤ n ∧ Fr (fun _ => False) w wr) (fun iv _ => n - (intOf iv).toNat)
  case atStart => exact ⟨0, rfl, by omega, Fr.refl _ _⟩
  case round =>
    obtain ⟨q, rfl, hq, hf⟩ := hrel
    have HF : Hid (Fr (fun _ => False) w wr) := hf
    clear hf
    by_cases hlt : q < n
    · have hlti : (q : Int) < (n : Int) := by omega
      have c1 := HF.out.cell (H1.out q hlt) id
      have c2 := HF.out.cell (H2.out q hlt) id
      go_wp2_with fail
      go_quiet (fail)
      go_wp2
      go_roundw
      case rel => exact ⟨q + 1, by go_num, by omega, HF.out.drewN _⟩
      case measure => simp [intOf]; omega
    · have hge : (n : Int) ≤ (q : Int) := by omega
      go_wp2
      go_ret
      exact ⟨rfl, HF.out⟩

theorem same_any (w : World) (b1 b2 : Nat) (v1 v2 : Value) (xs : List Int) (hx : xs.length < 1000) (h1 : w.ownsRow b1 33 1 v1 xs.length (xs.map (Value.int .u64))) (h2 : w.ownsRow b2 33 1 v2 xs.length (xs.map (Value.int .u64))) :
    Calls Yba.prog 22 #[v1, v2] w fun e w' => e = .returned (.bool true) ∧ Fr (fun _ => False) w w' := by
  rcases owns_slice h1 with ⟨rfl, p, c, rfl⟩ | ⟨g, c, rfl, k1⟩
  · rcases owns_slice h2 with ⟨_, p2, c2, rfl⟩ | ⟨g2, c2, rfl, _⟩
    · exact same_nil _ _ _ _ w
    · exact same_nil _ _ _ _ w
  · rcases owns_slice h2 with ⟨rfl, p2, c2, rfl⟩ | ⟨g2, c2, rfl, k2⟩
    · exact same_nil _ _ _ _ w
    · exact same_row g g2 c c2 xs.length (fun q => xs.getD q 0) w hx k1 k2

end Go.Proofs.Ybulkbdbe
