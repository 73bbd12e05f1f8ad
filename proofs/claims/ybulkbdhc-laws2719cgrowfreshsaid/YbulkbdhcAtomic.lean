import Derived.Test.YbulkbdhcRows
import Derived.WalkKit
import Derived.WalkSpells
import Derived.WalkLawsBesides
import Derived.Deep.OwnRows
import Derived.Lib.Builder
namespace Go.Proofs.Ybulkbdhc
open Go.RowKit Go.Deep
set_option linter.unusedVariables false

section
variable {P : Program} {f : FuncId} {fn : Func}
theorem run_call_load_ptr (hf : P.funcs[f]? = some fn) (hname : (fn.name == "runtime.NumGoroutine") = false) (hb : fn.body.isNone = true) (hn : Extern.findNext fn = none)
    (he : Extern.find fn = some (Extern.Atomic.loadT .ptr)) {a : Addr} {x : Option Addr} {w : World} (hc : w.cell? a = some (.pointer x)) :
    (callFunc f #[.pointer (some a)]).run P w = .ok (.value (.pointer x)) w := by
  rw [run_callFunc_extern hf hname hb hn he]
  change (Sem.run P (do Extern.Atomic.read .ptr (← asAddr (.pointer (some a)))) w).andThen _ = _
  simp [Extern.Atomic.read, asAddr, hc, Result.andThen]

theorem run_call_cas_ptr_nil (hf : P.funcs[f]? = some fn) (hname : (fn.name == "runtime.NumGoroutine") = false) (hb : fn.body.isNone = true) (hn : Extern.findNext fn = none)
    (he : Extern.find fn = some (Extern.Atomic.casT .ptr)) {a : Addr} {y : Option Addr} {w : World} (hc : w.cell? a = some (.pointer none)) (hz : w.frozen? a = false) :
    (callFunc f #[.pointer (some a), .pointer none, .pointer y]).run P w = .ok (.value (.bool true)) (w.setCell a (.pointer y)) := by
  rw [run_callFunc_extern hf hname hb hn he]
  change (Sem.run P (asAddr (.pointer (some a)) >>= _) w).andThen _ = _
  simp [Array.getLit, Extern.Atomic.touchesFrozen, Extern.Atomic.read, asAddr, viewAt, World.shape?_isSome_of_cell? hc, hc, hz, samePointer, run_store P w a (.pointer y) .atomic rfl, Result.andThen]
end

set_option maxHeartbeats 400000 in
theorem load32_any (b o : Nat) (x : Int) (w : World) (hc : w.cell? ⟨b, o, .none⟩ = some (.int .u32 x)) :
    Calls Yba.prog 8 #[.pointer (some ⟨b, o, .none⟩)] w fun e w' => e = .returned (.int .u32 x) ∧ w' = w := by
  have hl := run_call_load (P := Yba.prog) Yba.func15 (by kernel_rfl) (by kernel_rfl) (by kernel_rfl) .u32 (by kernel_rfl) hc
  go_enter Yba.func8, Yba.ntmps8
  go_wp2
  go_ret
  exact ⟨rfl, rfl⟩

set_option maxHeartbeats 400000 in
theorem load64_any (b o : Nat) (x : Int) (w : World) (hc : w.cell? ⟨b, o, .none⟩ = some (.int .u64 x)) :
    Calls Yba.prog 11 #[.pointer (some ⟨b, o, .none⟩)] w fun e w' => e = .returned (.int .u64 x) ∧ w' = w := by
  have hl := run_call_load (P := Yba.prog) Yba.func17 (by kernel_rfl) (by kernel_rfl) (by kernel_rfl) .u64 (by kernel_rfl) hc
  go_enter Yba.func11, Yba.ntmps11
  go_wp2
  go_ret
  exact ⟨rfl, rfl⟩

set_option maxHeartbeats 400000 in
theorem add32_any (b o : Nat) (x : Int) (w : World) (hx : 0 ≤ x) (hx2 : x < 4294967295) (hc : w.cell? ⟨b, o, .none⟩ = some (.int .u32 x)) (hz : w.frozen? ⟨b, o, .none⟩ = false) :
    Calls Yba.prog 12 #[.pointer (some ⟨b, o, .none⟩), .int .u32 1] w fun e w' => e = .returned (.int .u32 (x + 1)) ∧ w' = w.setCell ⟨b, o, .none⟩ (.int .u32 (x + 1)) := by
  have hs : (Op.intArith .add .u32 x 1).run Yba.prog w = .ok (.int .u32 (x + 1)) w := by
    have : IntKind.u32.wrap (x + 1) = x + 1 := by rw [IntKind.wrap_u32]; omega
    simp [Op.intArith, this]
  have hl := run_call_add (P := Yba.prog) Yba.func18 (by kernel_rfl) (by kernel_rfl) (by kernel_rfl) .u32 (by kernel_rfl) hc hz hs
  clear hs
  go_enter Yba.func12, Yba.ntmps12
  go_wp2
  go_ret
  exact ⟨rfl, rfl⟩

set_option maxHeartbeats 400000 in
theorem from_nil (w : World) : (convert 53 51 (.pointer .none)).run Yba.prog w = .ok (.pointer .none) w := by
  simp [convert, run_underlying Yba.underlying53, run_underlying Yba.underlying51]
  change Sem.run Yba.prog (underlying 53 >>= _) w = _
  simp [run_underlying Yba.underlying53, run_underlying Yba.underlying51]

theorem to_nil (w : World) : (convert 51 53 (.pointer .none)).run Yba.prog w = .ok (.pointer .none) w := by
  simp [convert, run_underlying Yba.underlying53, run_underlying Yba.underlying51]
  change Sem.run Yba.prog (underlying 51 >>= _) w = _
  simp [run_underlying Yba.underlying53, run_underlying Yba.underlying51]

theorem from_some (q : Nat) (w : World) (hsh : w.shape? q = some (62, 1)) : (convert 53 51 (.pointer (some ⟨q, 0, .none⟩))).run Yba.prog w = .ok (.pointer (some ⟨q, 0, .none⟩)) w := by
  have hlies : liesAt Yba.prog Yba.prog.depth 62 (1 / Yba.prog.cellsOf 62) 0 62 1 = true := by kernel_rfl
  simp [convert, run_underlying Yba.underlying53, run_underlying Yba.underlying51]
  change Sem.run Yba.prog (underlying 53 >>= _) w = _
  simp [run_underlying Yba.underlying53, run_underlying Yba.underlying51, Conv.seenAt, viewAt, hsh, variablesAt, hlies]

theorem to_some (q : Nat) (w : World) (hsh : w.shape? q = some (62, 1)) : (convert 51 53 (.pointer (some ⟨q, 0, .none⟩))).run Yba.prog w = .ok (.pointer (some ⟨q, 0, .none⟩)) w := by
  simp [convert, run_underlying Yba.underlying53, run_underlying Yba.underlying51]
  change Sem.run Yba.prog (underlying 51 >>= _) w = _
  simp [run_underlying Yba.underlying53, run_underlying Yba.underlying51, Conv.seenAt, viewAt, hsh, cellsIn]

theorem loadp_nil (b o : Nat) (w : World) (hc : w.cell? ⟨b, o, .none⟩ = some (.pointer .none)) :
    Calls Yba.prog 9 #[.pointer (some ⟨b, o, .none⟩)] w fun e w' => e = .returned (.pointer .none) ∧ w' = w := by
  have hl := run_call_load_ptr (P := Yba.prog) Yba.func16 (by kernel_rfl) (by kernel_rfl) (by kernel_rfl) (by kernel_rfl) hc
  have hcv := from_nil
  go_enter Yba.func9, Yba.ntmps9
  go_wp2
  go_ret
  exact ⟨rfl, rfl⟩

theorem shape_row {w : World} {b t n : Nat} {f : Nat → Value} (h : w.rowIs b t n f) : w.shape? b = some (t, n) := by
  obtain ⟨c, hb, hn, _⟩ := h
  simp [World.shape?, hb, hn]

set_option maxHeartbeats 400000 in
theorem loadp_some (b o q : Nat) (f : Nat → Value) (w : World) (hc : w.cell? ⟨b, o, .none⟩ = some (.pointer (some ⟨q, 0, .none⟩))) (hq : w.rowIs q 62 1 f) :
    Calls Yba.prog 9 #[.pointer (some ⟨b, o, .none⟩)] w fun e w' => e = .returned (.pointer (some ⟨q, 0, .none⟩)) ∧ w' = w := by
  have hl := run_call_load_ptr (P := Yba.prog) Yba.func16 (by kernel_rfl) (by kernel_rfl) (by kernel_rfl) (by kernel_rfl) hc
  have hcv : (convert 53 51 (.pointer (some ⟨q, 0, .none⟩))).run Yba.prog w = .ok (.pointer (some ⟨q, 0, .none⟩)) w :=
    from_some q w (shape_row hq)
  clear hq
  go_enter Yba.func9, Yba.ntmps9
  go_wp2
  go_ret
  exact ⟨rfl, rfl⟩

set_option maxHeartbeats 400000 in
theorem casp_nil (b o q : Nat) (f : Nat → Value) (w : World) (hc : w.cell? ⟨b, o, .none⟩ = some (.pointer .none)) (hz : w.frozen? ⟨b, o, .none⟩ = false) (hq : w.rowIs q 62 1 f) :
    Calls Yba.prog 14 #[.pointer (some ⟨b, o, .none⟩), .pointer .none, .pointer (some ⟨q, 0, .none⟩)] w fun e w' => e = .returned (.bool true) ∧ w' = w.setCell ⟨b, o, .none⟩ (.pointer (some ⟨q, 0, .none⟩)) := by
  have hl := run_call_cas_ptr_nil (P := Yba.prog) Yba.func20 (by kernel_rfl) (by kernel_rfl) (by kernel_rfl) (by kernel_rfl) (y := some ⟨q, 0, .none⟩) hc hz
  have hcv : (convert 51 53 (.pointer (some ⟨q, 0, .none⟩))).run Yba.prog w = .ok (.pointer (some ⟨q, 0, .none⟩)) w :=
    to_some q w (shape_row hq)
  have hcn := to_nil
  clear hq
  go_enter Yba.func14, Yba.ntmps14
  go_wp2
  go_ret
  exact ⟨rfl, rfl⟩

end Go.Proofs.Ybulkbdhc
