import Derived.Test.YbulkbdbeMathC
import Derived.Test.YbulkbdbeFloatB
import Derived.Deep.RegionWith
namespace Go.Proofs.Ybulkbdbe
open Go.RowKit

theorem load_u64 {b o : Nat} {x : Int} {w : World} (hc : w.cell? ⟨b, o, none⟩ = some (.int .u64 x)) :
    (callFunc 30 #[.pointer (some ⟨b, o, none⟩)]).run Yba.prog w = .ok (.value (.int .u64 x)) w :=
  run_call_load (P := Yba.prog) Yba.func30 (by kernel_rfl) (by kernel_rfl) (by kernel_rfl) .u64 (by kernel_rfl) hc

set_option maxHeartbeats 400000 in
theorem load_any (b : Nat) (x : Int) (w : World) (hc : w.cell? ⟨b, 0, none⟩ = some (.int .u64 x)) :
    Calls Yba.prog 16 #[.pointer (some ⟨b, 0, none⟩)] w fun e w' => e = .returned (.int .u64 x) ∧ w' = w := by
  have hl := load_u64 hc
  go_enter Yba.func16, Yba.ntmps16
  go_wp2
  go_ret
  exact ⟨rfl, rfl⟩

set_option maxHeartbeats 400000 in
theorem rank_any (b : Nat) (x : Int) (w : World) (hc : w.cell? ⟨b, 0, none⟩ = some (.int .u64 x)) :
    Calls Yba.prog 13 #[.pointer (some ⟨b, 0, none⟩)] w fun e w' => e = .returned (.float .f64 x.toNat) ∧ w' = w := by
  have hf := run_frombits
  go_enter Yba.func13, Yba.ntmps13
  go_wp2_with (go_at_call 16; refine (load_any b x _ hc).mono ?_; rintro e w' ⟨rfl, rfl⟩)
  go_ret
  exact ⟨rfl, rfl⟩

set_option maxHeartbeats 400000 in
theorem inf_neg (w : World) :
    Calls Yba.prog 38 #[.int .i64 (-1)] w fun e w' => e = .returned (.float .f64 18442240474082181120) ∧ w' = w := by
  have hf := run_frombits
  go_enter Yba.func38, Yba.ntmps38
  go_wp2
  go_ret
  exact ⟨rfl, rfl⟩

set_option maxHeartbeats 400000 in
theorem store_any (b : Nat) (x y : Int) (w : World) (hc : w.cell? ⟨b, 0, none⟩ = some (.int .u64 x)) (hz : w.frozen? ⟨b, 0, none⟩ = false) :
    Calls Yba.prog 36 #[.pointer (some ⟨b, 0, none⟩), .int .u64 y] w fun e w' => e = .returned (.tuple #[]) ∧ w' = w.setCell ⟨b, 0, none⟩ (.int .u64 y) := by
  have hl := run_call_store (P := Yba.prog) Yba.func46 (by kernel_rfl) (by kernel_rfl) (by kernel_rfl) (by kernel_rfl) (k := .u64) (y := y) hc hz
  go_enter Yba.func36, Yba.ntmps36
  go_wp2
  go_end0
  exact ⟨rfl, rfl⟩

set_option maxHeartbeats 400000 in
theorem cas_any (b : Nat) (x y : Int) (w : World) (hc : w.cell? ⟨b, 0, none⟩ = some (.int .u64 x)) (hz : w.frozen? ⟨b, 0, none⟩ = false) :
    Calls Yba.prog 39 #[.pointer (some ⟨b, 0, none⟩), .int .u64 x, .int .u64 y] w fun e w' => e = .returned (.bool true) ∧ w' = w.setCell ⟨b, 0, none⟩ (.int .u64 y) := by
  have hl := run_call_cas_hit (P := Yba.prog) Yba.func47 (by kernel_rfl) (by kernel_rfl) (by kernel_rfl) .u64 (by kernel_rfl) (y := y) hc hz
  go_enter Yba.func39, Yba.ntmps39
  go_wp2
  go_ret
  exact ⟨rfl, rfl⟩

set_option maxHeartbeats 400000 in
theorem freset_any (b : Nat) (x : Int) (w : World) (hc : w.cell? ⟨b, 0, none⟩ = some (.int .u64 x)) (hz : w.frozen? ⟨b, 0, none⟩ = false) :
    Calls Yba.prog 23 #[.pointer (some ⟨b, 0, none⟩)] w fun e w' => e = .returned (.tuple #[]) ∧ w' = (w.setCell ⟨b, 0, none⟩ (.int .u64 18442240474082181120)).drew := by
  have hb := run_bits
  have hc' : w.drew.cell? ⟨b, 0, none⟩ = some (.int .u64 x) := hc
  have hz' : w.drew.frozen? ⟨b, 0, none⟩ = false := hz
  go_enter Yba.func23, Yba.ntmps23
  go_region_with (first | (go_at_call 38; refine (inf_neg _).mono ?_; rintro e w' ⟨rfl, rfl⟩) | (go_at_call 36; refine (store_any b x _ _ hc' hz').mono ?_; rintro e w' ⟨rfl, rfl⟩))
  all_goals (go_end0; exact ⟨rfl, rfl⟩)

end Go.Proofs.Ybulkbdbe
