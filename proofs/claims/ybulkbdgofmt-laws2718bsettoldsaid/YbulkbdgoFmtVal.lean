import Derived.Test.YbulkbdgoFmtOthers
namespace Go.Proofs.YbulkbdgoFmt
open Go.RowKit Go.Deep
set_option linter.unusedVariables false

/-- what zzs2718bval answers -/
def valOf (c : Nat) : Nat × Bool :=
  if 48 ≤ c ∧ c ≤ 57 then (c - 48, true) else if 97 ≤ c ∧ c ≤ 102 then (c - 97 + 10, true) else if 65 ≤ c ∧ c ≤ 70 then (c - 65 + 10, true) else (0, false)

theorem tup {x y : Int} {b : Bool} (h : x = y) : Ending.returned (.tuple #[.int .u8 x, .bool b]) = .returned (.tuple #[.int .u8 y, .bool b]) := by rw [h]

theorem val_any (c : Nat) (hc : c < 256) (w : World) :
    Calls Ybaf.prog 11 #[.int .u8 c] w fun e w' => e = .returned (.tuple #[.int .u8 ((valOf c).1 : Nat), .bool (valOf c).2]) ∧ w' = w := by
  by_cases h1 : 48 ≤ c ∧ c ≤ 57
  · rw [show valOf c = (c - 48, true) from if_pos h1]
    obtain ⟨a, b⟩ := h1
    have a' : (48 : Int) ≤ c := by omega
    have b' : (c : Int) ≤ 57 := by omega
    go_enter Ybaf.func11, Ybaf.ntmps11
    go_wp2
    go_ret2
    exact ⟨tup (by omega), rfl⟩
  · by_cases h2 : 97 ≤ c ∧ c ≤ 102
    · rw [show valOf c = (c - 97 + 10, true) by unfold valOf; rw [if_neg h1, if_pos h2]]
      obtain ⟨a, b⟩ := h2
      have a' : (97 : Int) ≤ c := by omega
      have b' : (c : Int) ≤ 102 := by omega
      have e1 : decide ((c : Int) ≤ 57) = false := decide_eq_false (by omega)
      clear h1
      go_enter Ybaf.func11, Ybaf.ntmps11
      go_wp2
      go_ret2
      exact ⟨tup (by omega), rfl⟩
    · by_cases h3 : 65 ≤ c ∧ c ≤ 70
      · rw [show valOf c = (c - 65 + 10, true) by unfold valOf; rw [if_neg h1, if_neg h2, if_pos h3]]
        obtain ⟨a, b⟩ := h3
        have a' : (65 : Int) ≤ c := by omega
        have b' : (c : Int) ≤ 70 := by omega
        have e1 : decide ((c : Int) ≤ 57) = false := decide_eq_false (by omega)
        have e2 : decide ((97 : Int) ≤ c) = false := decide_eq_false (by omega)
        clear h1 h2
        go_enter Ybaf.func11, Ybaf.ntmps11
        go_wp2
        go_ret2
        exact ⟨tup (by omega), rfl⟩
      · rw [show valOf c = (0, false) by unfold valOf; rw [if_neg h1, if_neg h2, if_neg h3]]
        have g1 : ¬ ((48 : Int) ≤ c ∧ (c : Int) ≤ 57) := by omega
        have g2 : ¬ ((97 : Int) ≤ c ∧ (c : Int) ≤ 102) := by omega
        have g3 : ¬ ((65 : Int) ≤ c ∧ (c : Int) ≤ 70) := by omega
        clear h1 h2 h3
        go_enter Ybaf.func11, Ybaf.ntmps11
        go_wp2
        all_goals first | (exfalso; omega) | (go_ret2; exact ⟨rfl, rfl⟩)

set_option maxRecDepth 100000 in
theorem valOf_v : ∀ c : Fin 256, valOf c.val = if 15 < Lib.Hx.v (UInt8.ofNat c.val) then (0, false) else (Lib.Hx.v (UInt8.ofNat c.val), true) := by decide +kernel

end Go.Proofs.YbulkbdgoFmt
