import Derived.Test.YbulkbdbeOpen
namespace Go.Proofs.Ybulkbdbe
open Go.RowKit Go.Deep
set_option linter.unusedVariables false

section
variable {P : Program} {f : FuncId} {fn : Func}
theorem run_store_ptr (hf : P.funcs[f]? = some fn) (hname : (fn.name == "runtime.NumGoroutine") = false) (hb : fn.body.isNone = true) (hn : Extern.findNext fn = none)
    (he : Extern.find fn = some Extern.Atomic.storeT) {a : Addr} {x : Option Addr} {u : Value} {w : World} (hc : w.cell? a = some u) (hz : w.frozen? a = false) :
    (callFunc f #[.pointer (some a), .pointer x]).run P w = .ok (.value (.tuple #[])) (w.setCell a (.pointer x)) := by
  rw [run_callFunc_extern hf hname hb hn he]
  change (Sem.run P (do
    store (← asAddr (.pointer (some a))) (.pointer x) .atomic
    pure Extern.Atomic.none_) w).andThen _ = _
  simp [asAddr, hc, hz, run_store P w a (.pointer x) .atomic rfl, Result.andThen, Extern.Atomic.none_]
end

set_option maxHeartbeats 400000 in
theorem storeT_any (b o T : Nat) (f : Nat → Value) (u : Value) (w : World) (hc : w.cell? ⟨b, o, none⟩ = some u) (hz : w.frozen? ⟨b, o, none⟩ = false) (hT : w.rowIs T 91 2 f) :
    Calls Yba.prog 18 #[.pointer (some ⟨b, o, none⟩), .pointer (some ⟨T, 0, none⟩)] w fun e w' => e = .returned (.tuple #[]) ∧ w' = w.setCell ⟨b, o, none⟩ (.pointer (some ⟨T, 0, none⟩)) := by
  have hl := run_store_ptr (P := Yba.prog) (x := some ⟨T, 0, none⟩) Yba.func31 (by kernel_rfl) (by kernel_rfl) (by kernel_rfl) (by kernel_rfl) hc hz
  have hv := from_table T w (shape_row hT)
  clear hT hc hz
  go_enter Yba.func18, Yba.ntmps18
  go_wp2
  refine bodyPost_end (results_none rfl _ _ _) rfl ?_
  exact ⟨rfl, rfl⟩

theorem store_new (P : Program) (w : World) (b : Nat) (hb : w.heap.size = b) (x : Value) (f : Fn) (a c : Array Value) (t : TypeId) :
    (store ⟨b, 0, none⟩ (.func f a c)).run P (w.alloc (.cells #[x] t)) = .ok () (w.alloc (.cells #[.func f a c] t)) := by
  subst hb
  have h1 := (row_one w x t).cell (i := 0) (by omega)
  have h2 := (row_one w x t).frozen 0
  rw [run_store _ _ _ _ _ rfl, h1, h2]
  simp [World.setCell_alloc_at]

end Go.Proofs.Ybulkbdbe
