import Derived.Test.YbulkbdgoFmtRows
import Derived.Deep.DeepWitnessRowRef
import Derived.Lib.LaidIn
import Derived.ProofKit
namespace Go.Proofs.YbulkbdgoFmt.lawS2718BSet

def errText : List UInt8 := [101, 110, 99, 111, 100, 105, 110, 103, 47, 104, 101, 120, 58, 32, 111, 100, 100, 32, 108, 101, 110, 103, 116, 104, 32, 104, 101, 120, 32, 115, 116, 114, 105, 110, 103]

def laidOf (P : Program) (os : Os) : World :=
  let N := (World.settled P os).heap.size
  let w0 := World.holding P os ⟨#[.cells #[.string ⟨errText.toArray⟩] 67], #[], []⟩
  let put (h : Array Obj) (g : Nat) (cs : Array Value) : Array Obj := h.modify g fun
    | .cells _ t frozen => .cells cs t frozen
    | o => o
  { w0 with heap := put w0.heap 0 #[.iface 65 (.pointer (some ⟨N, 0, .none⟩))] }

set_option maxRecDepth 1000000 in
theorem laid_in (os : Os) (args : Array Value) : LaidIn Ybaf.prog ((laidOf Ybaf.prog os).forCall (fun _ _ => 0) ⟨#[], args, []⟩).memory Rows.lawS2718BSetRow.laid [0, (World.settled Ybaf.prog default).heap.size] :=
  LaidIn.of_run [0, (World.settled Ybaf.prog default).heap.size] 10 (by kernel_rfl) (by kernel_rfl) (by kernel_rfl) (by kernel_rfl)

theorem laid_met (os : Os) (args : Array Value) : laidMet Ybaf.prog Rows.lawS2718BSetRow.laid ((laidOf Ybaf.prog os).forCall (fun _ _ => 0) ⟨#[], args, []⟩).memory :=
  (laid_in os args).met

abbrev wArgs : Array Value := #[.int .u8 0, .string ⟨#[]⟩, .string ⟨#[]⟩, .int .i64 0, .slice .none 0 0]

set_option maxRecDepth 1000000 in
theorem witness_put (os : Os) {H : Type} (enc : TypeId × Value → H) :
    (OpenSpec.ofChange Rows.lawS2718BSetSpec).preRow enc Ybaf.prog Ybaf.f3 Rows.lawS2718BSetRow.domain false Rows.lawS2718BSetRow.laid ((laidOf Ybaf.prog os).forCall (fun _ _ => 0) ⟨#[], wArgs, []⟩).memory wArgs := by
  have hw : (DataW.whole enc Ybaf.prog ((laidOf Ybaf.prog os).forCall (fun _ _ => 0) ⟨#[], wArgs, []⟩).memory Ybaf.f3.params.toList (OpenSpec.ofChange Rows.lawS2718BSetSpec).vars false wArgs.toList 8).map (fun x => (x.1, x.2.1)) =
      some ([.lit (.int .u8 0), .lit (.string []), .lit (.string []), .lit (.int .i64 0), .nil], []) := by kernel_rfl
  obtain ⟨⟨x1, x2, x3⟩, hx, hx1⟩ := Option.map_eq_some_iff.1 hw
  simp only [Prod.mk.injEq] at hx1
  obtain ⟨rfl, rfl⟩ := hx1
  exact OpenSpec.preRow_of_cond 8 hx (by kernel_rfl) (fun k hk => by cases hk) (by kernel_rfl) (laid_met os _)

end Go.Proofs.YbulkbdgoFmt.lawS2718BSet
