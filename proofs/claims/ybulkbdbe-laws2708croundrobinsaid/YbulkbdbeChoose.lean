import Derived.Test.YbulkbdbePickW
import Derived.Lib.Builder
namespace Go.Proofs.Ybulkbdbe
open Go.RowKit Go.Deep
set_option linter.unusedVariables false

theorem Fr.trans' {M N : Nat → Prop} {a b c : World} (h : Fr M a b) (k : Fr N b c) (hN : ∀ i, i < a.heap.size → N i → M i) : Fr M a c :=
  ⟨k.os.trans h.os, k.tape.trans h.tape, k.output.trans h.output, Nat.le_trans h.size k.size, fun i hi hn => (k.keep i (Nat.lt_of_lt_of_le hi h.size) (fun e => hn (hN i hi e))).trans (h.keep i hi hn)⟩

theorem Own.mv {X G : Nat} {lv lv' : Value} {n b : Nat} (h : Own lv lv' n) (hb : b < n) (hm : Mv X G lv' b) : Mv X G lv b := by
  rcases hm with e | e | e
  · exact .inl e
  · exact .inr (.inl e)
  · rcases h with q | ⟨g, q, hg⟩
    · exact .inr (.inr (by rw [← q]; exact e))
    · rw [q] at e; cases e; omega

theorem Own.trans {lv lv1 lv2 : Value} {n m : Nat} (h : Own lv lv1 n) (k : Own lv1 lv2 m) (hnm : n ≤ m) : Own lv lv2 n := by
  rcases k with q | ⟨g, q, hg⟩
  · rcases h with r | ⟨g, r, hg⟩
    · exact .inl (q.trans r)
    · exact .inr ⟨g, q.trans r, hg⟩
  · exact .inr ⟨g, q, by omega⟩

section
variable {P : Program} {f : FuncId} {fn : Func}
theorem run_load_ptr (hf : P.funcs[f]? = some fn) (hname : (fn.name == "runtime.NumGoroutine") = false) (hb : fn.body.isNone = true) (hn : Extern.findNext fn = none)
    (he : Extern.find fn = some (Extern.Atomic.loadT .ptr)) {a : Addr} {x : Option Addr} {w : World} (hc : w.cell? a = some (.pointer x)) :
    (callFunc f #[.pointer (some a)]).run P w = .ok (.value (.pointer x)) w := by
  rw [run_callFunc_extern hf hname hb hn he]
  change (Sem.run P (do Extern.Atomic.read .ptr (← asAddr (.pointer (some a)))) w).andThen _ = _
  simp [Extern.Atomic.read, asAddr, hc, Result.andThen]
end

theorem to_table (q : Nat) (w : World) (hsh : w.shape? q = some (91, 2)) : (convert 66 64 (.pointer (some ⟨q, 0, .none⟩))).run Yba.prog w = .ok (.pointer (some ⟨q, 0, .none⟩)) w := by
  have hlies : liesAt Yba.prog Yba.prog.depth 91 (2 / Yba.prog.cellsOf 91) 0 91 1 = true := by kernel_rfl
  simp [convert, run_underlying Yba.underlying66, run_underlying Yba.underlying64]
  change Sem.run Yba.prog (underlying 66 >>= _) w = _
  simp [run_underlying Yba.underlying66, run_underlying Yba.underlying64, Conv.seenAt, viewAt, hsh, variablesAt, hlies]

theorem from_table (q : Nat) (w : World) (hsh : w.shape? q = some (91, 2)) : (convert 64 66 (.pointer (some ⟨q, 0, .none⟩))).run Yba.prog w = .ok (.pointer (some ⟨q, 0, .none⟩)) w := by
  simp [convert, run_underlying Yba.underlying66, run_underlying Yba.underlying64]
  change Sem.run Yba.prog (underlying 64 >>= _) w = _
  simp [run_underlying Yba.underlying66, run_underlying Yba.underlying64, Conv.seenAt, viewAt, hsh, cellsIn]

theorem shape_row {w : World} {b : Nat} {t : TypeId} {n : Nat} {f : Nat → Value} (h : w.rowIs b t n f) : w.shape? b = some (t, n) := by
  obtain ⟨c, hb, hn, _⟩ := h
  simp [World.shape?, hb, hn]

set_option maxHeartbeats 400000 in
theorem loadT_any (b o T : Nat) (f : Nat → Value) (w : World) (hc : w.cell? ⟨b, o, none⟩ = some (.pointer (some ⟨T, 0, none⟩))) (hT : w.rowIs T 91 2 f) :
    Calls Yba.prog 32 #[.pointer (some ⟨b, o, none⟩)] w fun e w' => e = .returned (.pointer (some ⟨T, 0, none⟩)) ∧ w' = w := by
  have hl := run_load_ptr (P := Yba.prog) Yba.func42 (by kernel_rfl) (by kernel_rfl) (by kernel_rfl) (by kernel_rfl) hc
  have hv := to_table T w (shape_row hT)
  clear hT hc
  go_enter Yba.func32, Yba.ntmps32
  go_wp2
  go_ret
  exact ⟨rfl, rfl⟩

set_option maxHeartbeats 400000 in
theorem add64_any (b o x : Nat) (w : World) (hx : x < 1000000) (hc : w.cell? ⟨b, o, none⟩ = some (.int .u64 x)) (hz : w.frozen? ⟨b, o, none⟩ = false) :
    Calls Yba.prog 35 #[.pointer (some ⟨b, o, none⟩), .int .u64 1] w fun e w' => e = .returned (.int .u64 (x + 1 : Nat)) ∧ w' = w.setCell ⟨b, o, none⟩ (.int .u64 (x + 1 : Nat)) := by
  have hs : (Op.intArith .add .u64 (x : Int) 1).run Yba.prog w = .ok (.int .u64 (x + 1 : Nat)) w := by
    have : IntKind.u64.wrap ((x : Int) + 1) = ((x + 1 : Nat) : Int) := by rw [IntKind.wrap_u64]; omega
    simp [Op.intArith, this]
  have hl := run_call_add (P := Yba.prog) Yba.func45 (by kernel_rfl) (by kernel_rfl) (by kernel_rfl) .u64 (by kernel_rfl) hc hz hs
  clear hs
  go_enter Yba.func35, Yba.ntmps35
  go_wp2
  go_ret
  exact ⟨rfl, rfl⟩

end Go.Proofs.Ybulkbdbe
