/-
  No cell of these rows narrows 'for every input' (looked for: loops, veiled, ifaces, maps, wideKeys, modest, calm, conditions, laid).
  DERIVED. THE GIVEN ROWS OF THIS SEAT. 2 by the template 'for every input the law returns true; each argument reads behind the call as it read before'; 0 by the template 'total and deterministic' (their statements: YbulkbdhcTotals.lean).
  GIVEN WITH THE SEED: the statements are not yours to turn. If you find one false, say at which input.
  Laid BY PROGRAM, IN A SANDBOX (cutbox-rows.mjs): the forced cells as the released guide's own fill.sh prints them over the translation 01a513ab829f3bbf… (all of the seat's roots in one cut). By AI agents, Wed Nov 11 2026. No macro, syntax, notation, axiom, sorry.
-/
import Derived.Test.YbulkbdhcChecked
import GoSem.Claim
import GoSem.ClaimJoined
import GoSem.ClaimMapViews
import Derived.JoinedTies
import Derived.KernelRfl
namespace Go.Proofs.Ybulkbdhc
/- THE CELL 'sum', in the pinned program and in every row, IS THE sha256 OF THE DUMP (.gsa) THAT YbulkbdhcProg.lean LOADS. Nothing in Lean hashes anything: it is a label: what it is worth is what the hold of that sum in a sandbox is worth. -/
noncomputable def Yba.pinned : Pinned := { name := "ybulkbdhc", sum := "01a513ab829f3bbf4744b8f89226b2212b795c958e4cbfdc29678cc95060e024", checked := Yba.checked }
namespace Rows
def none {H : Type} : Left H := { results := [], args := [] }

/-- 'latchwork.LawS2719BOrder': WHATEVER THE INPUT: true; the input reads as it did. -/
def lawS2719BOrderSpec : ChangeSpec := { name := "lawS2719BOrder", fn := fun _ => fun
  | [d1, d2, d3, d4] => { results := [.lit (.bool true)], args := [d1, d2, d3, d4] }
  | _ => none }
def lawS2719BOrderRow : OpenClaim := { program := "ybulkbdhc", sum := "01a513ab829f3bbf4744b8f89226b2212b795c958e4cbfdc29678cc95060e024", func := "example.com/latchwork/latchwork.LawS2719BOrder", spec := "lawS2719BOrder", apart := false }
def LawS2719BOrderSaid : Prop := lawS2719BOrderRow.holds Yba.pinned (OpenSpec.ofChange lawS2719BOrderSpec)

/-- ITS FALSE NEIGHBOUR: 'it returns false'. Refute it at one input. -/
def lawS2719BOrderWrong : ChangeSpec := { name := "lawS2719BOrder", fn := fun _ => fun
  | [d1, d2, d3, d4] => { results := [.lit (.bool false)], args := [d1, d2, d3, d4] }
  | _ => none }
def LawS2719BOrderWrongFalsely : Prop := lawS2719BOrderRow.holds Yba.pinned (OpenSpec.ofChange lawS2719BOrderWrong)

/-- 'latchwork.LawS2719CGrowFresh': WHATEVER THE INPUT: true; the input reads as it did. -/
def lawS2719CGrowFreshSpec : ChangeSpec := { name := "lawS2719CGrowFresh", fn := fun _ => fun
  | [d] => { results := [.lit (.bool true)], args := [d] }
  | _ => none }
def lawS2719CGrowFreshRow : OpenClaim := { program := "ybulkbdhc", sum := "01a513ab829f3bbf4744b8f89226b2212b795c958e4cbfdc29678cc95060e024", func := "example.com/latchwork/latchwork.LawS2719CGrowFresh", spec := "lawS2719CGrowFresh", inPlace := ["sync/atomic.AddUint32", "sync/atomic.LoadPointer", "sync/atomic.CompareAndSwapPointer", "sync/atomic.LoadUint32", "sync/atomic.LoadUint64"], apart := false }
def LawS2719CGrowFreshSaid : Prop := lawS2719CGrowFreshRow.holds Yba.pinned (OpenSpec.ofChange lawS2719CGrowFreshSpec)

/-- ITS FALSE NEIGHBOUR: 'it returns false'. Refute it at one input. -/
def lawS2719CGrowFreshWrong : ChangeSpec := { name := "lawS2719CGrowFresh", fn := fun _ => fun
  | [d] => { results := [.lit (.bool false)], args := [d] }
  | _ => none }
def LawS2719CGrowFreshWrongFalsely : Prop := lawS2719CGrowFreshRow.holds Yba.pinned (OpenSpec.ofChange lawS2719CGrowFreshWrong)

end Rows
end Go.Proofs.Ybulkbdhc
