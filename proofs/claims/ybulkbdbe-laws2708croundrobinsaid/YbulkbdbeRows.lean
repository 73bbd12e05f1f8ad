/-
  No cell of these rows narrows 'for every input' (looked for: loops, veiled, ifaces, maps, wideKeys, modest, calm, conditions, laid).
  DERIVED. THE GIVEN ROWS OF THIS SEAT. 5 by the template 'for every input the law returns true; each argument reads behind the call as it read before'; 0 by the template 'total and deterministic' (their statements: YbulkbdbeTotals.lean).
  GIVEN WITH THE SEED: the statements are not yours to turn. If you find one false, say at which input.
  Laid BY PROGRAM, IN A SANDBOX (cutbox-rows.mjs): the forced cells as the released guide's own fill.sh prints them over the translation 0050ba6d7de44408… (all of the seat's roots in one cut). By AI agents, Wed Nov 11 2026. No macro, syntax, notation, axiom, sorry.
-/
import Derived.Test.YbulkbdbeChecked
import GoSem.Claim
import GoSem.ClaimJoined
import GoSem.ClaimMapViews
import Derived.JoinedTies
import Derived.KernelRfl
namespace Go.Proofs.Ybulkbdbe
/- THE CELL 'sum', in the pinned program and in every row, IS THE sha256 OF THE DUMP (.gsa) THAT YbulkbdbeProg.lean LOADS. Nothing in Lean hashes anything: it is a label: what it is worth is what the hold of that sum in a sandbox is worth. -/
noncomputable def Yba.pinned : Pinned := { name := "ybulkbdbe", sum := "0050ba6d7de44408cfac9b17c193fdcd843da80cc4c10a8860432b8bc4dc84c6", checked := Yba.checked }
namespace Rows
def none {H : Type} : Left H := { results := [], args := [] }

/-- 'tideway.LawS2708AExact': WHATEVER THE INPUT: true; the input reads as it did. -/
def lawS2708AExactSpec : ChangeSpec := { name := "lawS2708AExact", fn := fun _ => fun
  | [d1, d2] => { results := [.lit (.bool true)], args := [d1, d2] }
  | _ => none }
def lawS2708AExactRow : OpenClaim := { program := "ybulkbdbe", sum := "0050ba6d7de44408cfac9b17c193fdcd843da80cc4c10a8860432b8bc4dc84c6", func := "example.com/tideway/tideway.LawS2708AExact", spec := "lawS2708AExact", apart := false }
def LawS2708AExactSaid : Prop := lawS2708AExactRow.holds Yba.pinned (OpenSpec.ofChange lawS2708AExactSpec)

/-- ITS FALSE NEIGHBOUR: 'it returns false'. Refute it at one input. -/
def lawS2708AExactWrong : ChangeSpec := { name := "lawS2708AExact", fn := fun _ => fun
  | [d1, d2] => { results := [.lit (.bool false)], args := [d1, d2] }
  | _ => none }
def LawS2708AExactWrongFalsely : Prop := lawS2708AExactRow.holds Yba.pinned (OpenSpec.ofChange lawS2708AExactWrong)

/-- 'tideway.LawS2708AChain': WHATEVER THE INPUT: true; the input reads as it did. -/
def lawS2708AChainSpec : ChangeSpec := { name := "lawS2708AChain", fn := fun _ => fun
  | [d1, d2, d3] => { results := [.lit (.bool true)], args := [d1, d2, d3] }
  | _ => none }
def lawS2708AChainRow : OpenClaim := { program := "ybulkbdbe", sum := "0050ba6d7de44408cfac9b17c193fdcd843da80cc4c10a8860432b8bc4dc84c6", func := "example.com/tideway/tideway.LawS2708AChain", spec := "lawS2708AChain", apart := false }
def LawS2708AChainSaid : Prop := lawS2708AChainRow.holds Yba.pinned (OpenSpec.ofChange lawS2708AChainSpec)

/-- ITS FALSE NEIGHBOUR: 'it returns false'. Refute it at one input. -/
def lawS2708AChainWrong : ChangeSpec := { name := "lawS2708AChain", fn := fun _ => fun
  | [d1, d2, d3] => { results := [.lit (.bool false)], args := [d1, d2, d3] }
  | _ => none }
def LawS2708AChainWrongFalsely : Prop := lawS2708AChainRow.holds Yba.pinned (OpenSpec.ofChange lawS2708AChainWrong)

/-- 'tideway.LawS2708BRow': WHATEVER THE INPUT: true; the input reads as it did. -/
def lawS2708BRowSpec : ChangeSpec := { name := "lawS2708BRow", fn := fun _ => fun
  | [d] => { results := [.lit (.bool true)], args := [d] }
  | _ => none }
def lawS2708BRowRow : OpenClaim := { program := "ybulkbdbe", sum := "0050ba6d7de44408cfac9b17c193fdcd843da80cc4c10a8860432b8bc4dc84c6", func := "example.com/tideway/tideway.LawS2708BRow", spec := "lawS2708BRow", inPlace := ["math.Float64frombits", "math.Float64bits", "sync/atomic.StoreUint64", "sync/atomic.LoadUint64", "math.archLog", "sync/atomic.CompareAndSwapUint64"], unfollowed := true, recurses := true, apart := false }
def LawS2708BRowSaid : Prop := lawS2708BRowRow.holds Yba.pinned (OpenSpec.ofChange lawS2708BRowSpec)

/-- ITS FALSE NEIGHBOUR: 'it returns false'. Refute it at one input. -/
def lawS2708BRowWrong : ChangeSpec := { name := "lawS2708BRow", fn := fun _ => fun
  | [d] => { results := [.lit (.bool false)], args := [d] }
  | _ => none }
def LawS2708BRowWrongFalsely : Prop := lawS2708BRowRow.holds Yba.pinned (OpenSpec.ofChange lawS2708BRowWrong)

/-- 'tideway.LawS2708BExact': WHATEVER THE INPUT: true; the input reads as it did. -/
def lawS2708BExactSpec : ChangeSpec := { name := "lawS2708BExact", fn := fun _ => fun
  | [d1, d2] => { results := [.lit (.bool true)], args := [d1, d2] }
  | _ => none }
def lawS2708BExactRow : OpenClaim := { program := "ybulkbdbe", sum := "0050ba6d7de44408cfac9b17c193fdcd843da80cc4c10a8860432b8bc4dc84c6", func := "example.com/tideway/tideway.LawS2708BExact", spec := "lawS2708BExact", inPlace := ["sync/atomic.LoadUint64", "math.Float64frombits", "math.Float64bits", "math.archLog", "sync/atomic.CompareAndSwapUint64", "sync/atomic.StoreUint64"], unfollowed := true, recurses := true, apart := false }
def LawS2708BExactSaid : Prop := lawS2708BExactRow.holds Yba.pinned (OpenSpec.ofChange lawS2708BExactSpec)

/-- ITS FALSE NEIGHBOUR: 'it returns false'. Refute it at one input. -/
def lawS2708BExactWrong : ChangeSpec := { name := "lawS2708BExact", fn := fun _ => fun
  | [d1, d2] => { results := [.lit (.bool false)], args := [d1, d2] }
  | _ => none }
def LawS2708BExactWrongFalsely : Prop := lawS2708BExactRow.holds Yba.pinned (OpenSpec.ofChange lawS2708BExactWrong)

/-- 'tideway.LawS2708CRoundRobin': WHATEVER THE INPUT: true; the input reads as it did. -/
def lawS2708CRoundRobinSpec : ChangeSpec := { name := "lawS2708CRoundRobin", fn := fun _ => fun
  | [d1, d2, d3, d4, d5, d6] => { results := [.lit (.bool true)], args := [d1, d2, d3, d4, d5, d6] }
  | _ => none }
def lawS2708CRoundRobinRow : OpenClaim := { program := "ybulkbdbe", sum := "0050ba6d7de44408cfac9b17c193fdcd843da80cc4c10a8860432b8bc4dc84c6", func := "example.com/tideway/tideway.LawS2708CRoundRobin", spec := "lawS2708CRoundRobin", inPlace := ["sync/atomic.StorePointer", "sync/atomic.LoadPointer", "sync/atomic.LoadInt64", "sync/atomic.LoadUint64", "math.Float64frombits", "math.Float64bits", "sync/atomic.AddUint64"], unfollowed := true, recurses := true, apart := false }
def LawS2708CRoundRobinSaid : Prop := lawS2708CRoundRobinRow.holds Yba.pinned (OpenSpec.ofChange lawS2708CRoundRobinSpec)

/-- ITS FALSE NEIGHBOUR: 'it returns false'. Refute it at one input. -/
def lawS2708CRoundRobinWrong : ChangeSpec := { name := "lawS2708CRoundRobin", fn := fun _ => fun
  | [d1, d2, d3, d4, d5, d6] => { results := [.lit (.bool false)], args := [d1, d2, d3, d4, d5, d6] }
  | _ => none }
def LawS2708CRoundRobinWrongFalsely : Prop := lawS2708CRoundRobinRow.holds Yba.pinned (OpenSpec.ofChange lawS2708CRoundRobinWrong)

end Rows
end Go.Proofs.Ybulkbdbe
