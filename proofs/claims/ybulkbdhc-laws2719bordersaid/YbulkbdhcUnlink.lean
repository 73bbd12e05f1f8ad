import Derived.Test.YbulkbdhcRows
import Derived.WalkKit
import Derived.WalkSpells
import Derived.WalkLawsBesides
import Derived.RegionTactic
import Derived.Deep.OwnRows
namespace Go.Proofs.Ybulkbdhc
open Go.RowKit
set_option linter.unusedVariables false

set_option maxHeartbeats 400000 in
theorem unlink_ss (bi bq : Nat) (bp : Nat) (bn : Nat) (w : World) (v1 v2 : Value)
    (c0 : w.cell? ⟨bi, 0, none⟩ = some (.pointer (some ⟨bn, 0, none⟩))) (c1 : w.cell? ⟨bi, 1, none⟩ = some (.pointer (some ⟨bp, 0, none⟩)))
    (cp : w.cell? ⟨bp, 0, none⟩ = some v1) (cn : w.cell? ⟨bn, 1, none⟩ = some v2)
    (f0 : w.frozen? ⟨bi, 0, none⟩ = false) (f1 : w.frozen? ⟨bi, 1, none⟩ = false) (fp : w.frozen? ⟨bp, 0, none⟩ = false) (fn : w.frozen? ⟨bn, 1, none⟩ = false)
    (hp : ¬ bp = bi) (hn : ¬ bn = bi) :
    Calls Yba.prog 6 #[.pointer (some ⟨bq, 0, none⟩), .pointer (some ⟨bi, 0, none⟩)] w fun e w' => e = .returned (.tuple #[]) ∧
      w' = ((((w.setCell ⟨bp, 0, none⟩ (.pointer (some ⟨bn, 0, none⟩))).setCell ⟨bn, 1, none⟩ (.pointer (some ⟨bp, 0, none⟩))).setCell ⟨bi, 1, none⟩ (.pointer none)).setCell ⟨bi, 0, none⟩ (.pointer none)).drew.drew := by
  go_enter Yba.func6, Yba.ntmps6
  go_wp2
  go_region
  all_goals go_wp2
  all_goals go_region
  all_goals go_wp2
  all_goals go_end0
  all_goals exact ⟨rfl, rfl⟩

set_option maxHeartbeats 400000 in
theorem unlink_sn (bi bq : Nat) (bp : Nat) (w : World) (v1 v2 : Value)
    (c0 : w.cell? ⟨bi, 0, none⟩ = some (.pointer none)) (c1 : w.cell? ⟨bi, 1, none⟩ = some (.pointer (some ⟨bp, 0, none⟩)))
    (cp : w.cell? ⟨bp, 0, none⟩ = some v1) (cn : w.cell? ⟨bq, 4, none⟩ = some v2)
    (f0 : w.frozen? ⟨bi, 0, none⟩ = false) (f1 : w.frozen? ⟨bi, 1, none⟩ = false) (fp : w.frozen? ⟨bp, 0, none⟩ = false) (fn : w.frozen? ⟨bq, 4, none⟩ = false)
    (hp : ¬ bp = bi) (hn : ¬ bq = bi) :
    Calls Yba.prog 6 #[.pointer (some ⟨bq, 0, none⟩), .pointer (some ⟨bi, 0, none⟩)] w fun e w' => e = .returned (.tuple #[]) ∧
      w' = ((((w.setCell ⟨bp, 0, none⟩ (.pointer none)).setCell ⟨bq, 4, none⟩ (.pointer (some ⟨bp, 0, none⟩))).setCell ⟨bi, 1, none⟩ (.pointer none)).setCell ⟨bi, 0, none⟩ (.pointer none)).drew := by
  go_enter Yba.func6, Yba.ntmps6
  go_wp2
  go_region
  all_goals go_wp2
  all_goals go_end0
  all_goals exact ⟨rfl, rfl⟩

set_option maxHeartbeats 400000 in
theorem unlink_ns (bi bq : Nat) (bn : Nat) (w : World) (v1 v2 : Value)
    (c0 : w.cell? ⟨bi, 0, none⟩ = some (.pointer (some ⟨bn, 0, none⟩))) (c1 : w.cell? ⟨bi, 1, none⟩ = some (.pointer none))
    (cp : w.cell? ⟨bq, 3, none⟩ = some v1) (cn : w.cell? ⟨bn, 1, none⟩ = some v2)
    (f0 : w.frozen? ⟨bi, 0, none⟩ = false) (f1 : w.frozen? ⟨bi, 1, none⟩ = false) (fp : w.frozen? ⟨bq, 3, none⟩ = false) (fn : w.frozen? ⟨bn, 1, none⟩ = false)
    (hp : ¬ bq = bi) (hn : ¬ bn = bi) :
    Calls Yba.prog 6 #[.pointer (some ⟨bq, 0, none⟩), .pointer (some ⟨bi, 0, none⟩)] w fun e w' => e = .returned (.tuple #[]) ∧
      w' = ((((w.setCell ⟨bq, 3, none⟩ (.pointer (some ⟨bn, 0, none⟩))).setCell ⟨bn, 1, none⟩ (.pointer none)).setCell ⟨bi, 1, none⟩ (.pointer none)).setCell ⟨bi, 0, none⟩ (.pointer none)).drew := by
  go_enter Yba.func6, Yba.ntmps6
  go_wp2
  all_goals go_region
  all_goals go_wp2
  all_goals go_end0
  all_goals exact ⟨rfl, rfl⟩

set_option maxHeartbeats 400000 in
theorem unlink_nn (bi bq : Nat) (w : World) (v1 v2 : Value)
    (c0 : w.cell? ⟨bi, 0, none⟩ = some (.pointer none)) (c1 : w.cell? ⟨bi, 1, none⟩ = some (.pointer none))
    (cp : w.cell? ⟨bq, 3, none⟩ = some v1) (cn : w.cell? ⟨bq, 4, none⟩ = some v2)
    (f0 : w.frozen? ⟨bi, 0, none⟩ = false) (f1 : w.frozen? ⟨bi, 1, none⟩ = false) (fp : w.frozen? ⟨bq, 3, none⟩ = false) (fn : w.frozen? ⟨bq, 4, none⟩ = false)
    (hp : ¬ bq = bi) (hn : ¬ bq = bi) :
    Calls Yba.prog 6 #[.pointer (some ⟨bq, 0, none⟩), .pointer (some ⟨bi, 0, none⟩)] w fun e w' => e = .returned (.tuple #[]) ∧
      w' = ((((w.setCell ⟨bq, 3, none⟩ (.pointer none)).setCell ⟨bq, 4, none⟩ (.pointer none)).setCell ⟨bi, 1, none⟩ (.pointer none)).setCell ⟨bi, 0, none⟩ (.pointer none)) := by
  go_enter Yba.func6, Yba.ntmps6
  go_wp2
  all_goals go_end0
  all_goals exact ⟨rfl, rfl⟩

end Go.Proofs.Ybulkbdhc
