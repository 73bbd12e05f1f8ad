import Derived.Test.YbulkbdgoFmtRows
import Derived.Test.YbulkbdgoFmtShelf
import Derived.Stop.CallBack
import Derived.Stop.IfaceNil
import Derived.Stop.FmtTextLaws
import Derived.WalkKit
import Derived.WalkSpells
import Derived.WalkLawsBesides
import Derived.Deep.OwnRows
import Derived.Below
import GoSem.ClaimData
namespace Go.Proofs.YbulkbdgoFmt
open Go.Extern.Stop Go.Stop Go.Extern Go.RowKit Go.Deep
set_option linter.unusedVariables false

theorem call28 (args : Array Value) (w : World) : (callFunc 28 args).run Ybaf.prog w = (FmtCalls.errorf #[9, 61] #[41] args).run Ybaf.prog w :=
  run_callFunc_next Ybaf.func28 (by kernel_rfl) (by kernel_rfl) (by kernel_rfl) args w
theorem guardOk (name : String) (w : World) : (FmtStop.guard name).run Ybaf.prog w = .ok () w := by kernel_rfl
theorem nextTurns : Extern.next FmtCalls.turnsRow = some (FmtCalls.begun #[] #[]) := by kernel_rfl
theorem fmtr (w : World) : (FmtDoors.printed ⟨#[105, 115, 32, 111, 118, 101, 114, 32, 37, 100, 32, 111, 99, 116, 101, 116, 115]⟩ 1).run Ybaf.prog w = .ok [(0, 100, false)] w := by kernel_rfl
def shape3 : List UInt8 := [5, 3, 0, 0, 0, 0, 0, 0, 0, 105, 110, 116]
theorem act3 (name : String) (x : Value) (w : World) : (FmtCalls.act name true 100 false (.iface 3 x)).run Ybaf.prog w = .ok (.closed true) w := by kernel_rfl
theorem op3 (name : String) (x : Int) (w : World) : (FmtStop.operand name true 100 false (.iface 3 (.int .i64 x))).run Ybaf.prog w = .ok (shape3, Go.Extern.Stop.digits 8 (x % 2 ^ 64).toNat) w := by kernel_rfl
theorem ptr65 (w : World) : (FmtStop.ptrTo "errors.errorString").run Ybaf.prog w = .ok 65 w := by kernel_rfl
theorem elem65 (w : World) : (elemOf 65).run Ybaf.prog w = .ok 67 w := by kernel_rfl

attribute [local go_sem] call28 guardOk fmtr act3 op3 ptr65 elem65

/-- errors.New -/
theorem new_any (s : ByteArray) (w : World) : Calls Ybaf.prog 25 #[.string s] w fun e w' => ∃ b, e = .returned (.iface 65 (.pointer (some ⟨b, 0, .none⟩))) ∧ Below w.heap.size w w' := by
  go_enter Ybaf.func25, Ybaf.ntmps25
  go_wp2
  go_ret
  exact ⟨_, rfl, (Below.refl _ _).alloc (Nat.le_refl _) _⟩

set_option maxHeartbeats 800000 in
/-- fmt.Errorf("is over %d octets", limit) -/
theorem errorf_any (x : Int) (blk : Nat) (w : World) (hc : w.cell? ⟨blk, 0, .none⟩ = some (.iface 3 (.int .i64 x))) :
    Calls Ybaf.prog 23 #[.string ⟨#[105, 115, 32, 111, 118, 101, 114, 32, 37, 100, 32, 111, 99, 116, 101, 116, 115]⟩, .slice (some ⟨blk, 0, .none⟩) 1 1] w fun e w' =>
      ∃ b, e = .returned (.iface 65 (.pointer (some ⟨b, 0, .none⟩))) ∧ Below w.heap.size w w' := by
  go_enter Ybaf.func23, Ybaf.ntmps23
  go_wp2
  apply rows_value nextTurns
  case hr =>
    go_simp
    exact ⟨rfl, rfl⟩
  case h =>
    go_wp2
    go_ret
    exact ⟨_, rfl, ((Below.refl _ _).alloc (Nat.le_refl _) _).drew⟩
end Go.Proofs.YbulkbdgoFmt
