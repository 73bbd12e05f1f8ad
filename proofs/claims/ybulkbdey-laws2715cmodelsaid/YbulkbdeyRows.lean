/-
  No cell of these rows narrows 'for every input' (looked for: loops, veiled, ifaces, maps, wideKeys, modest, calm, conditions, laid).
  DERIVED. THE GIVEN ROWS OF THIS SEAT. 2 by the template 'for every input the law returns true; each argument reads behind the call as it read before'; 0 by the template 'total and deterministic' (their statements: YbulkbdeyTotals.lean).
  GIVEN WITH THE SEED: the statements are not yours to turn. If you find one false, say at which input.
  Laid BY PROGRAM, IN A SANDBOX (cutbox-rows.mjs): the forced cells as the released guide's own fill.sh prints them over the translation 547f1f7c083d34b7… (all of the seat's roots in one cut). By AI agents, Wed Nov 11 2026. No macro, syntax, notation, axiom, sorry.
-/
import Derived.Test.YbulkbdeyChecked
import GoSem.Claim
import GoSem.ClaimJoined
import GoSem.ClaimMapViews
import Derived.JoinedTies
import Derived.KernelRfl
namespace Go.Proofs.Ybulkbdey
/- THE CELL 'sum', in the pinned program and in every row, IS THE sha256 OF THE DUMP (.gsa) THAT YbulkbdeyProg.lean LOADS. Nothing in Lean hashes anything: it is a label: what it is worth is what the hold of that sum in a sandbox is worth. -/
noncomputable def Yba.pinned : Pinned := { name := "ybulkbdey", sum := "547f1f7c083d34b742045aaee55af29e5313db6d50eb64e15e8b922fbe4b9a6c", checked := Yba.checked }
namespace Rows
def none {H : Type} : Left H := { results := [], args := [] }

/-- 'tidemark.LawS2715CModel': WHATEVER THE INPUT: true; the input reads as it did. -/
def lawS2715CModelSpec : ChangeSpec := { name := "lawS2715CModel", fn := fun _ => fun
  | [d1, d2, d3, d4] => { results := [.lit (.bool true)], args := [d1, d2, d3, d4] }
  | _ => none }
def lawS2715CModelRow : OpenClaim := { program := "ybulkbdey", sum := "547f1f7c083d34b742045aaee55af29e5313db6d50eb64e15e8b922fbe4b9a6c", func := "example.com/tidemark/tidemark.LawS2715CModel", spec := "lawS2715CModel", recurses := true, named := ["encoding/binary.BigEndian"], apart := false }
def LawS2715CModelSaid : Prop := lawS2715CModelRow.holds Yba.pinned (OpenSpec.ofChange lawS2715CModelSpec)

/-- ITS FALSE NEIGHBOUR: 'it returns false'. Refute it at one input. -/
def lawS2715CModelWrong : ChangeSpec := { name := "lawS2715CModel", fn := fun _ => fun
  | [d1, d2, d3, d4] => { results := [.lit (.bool false)], args := [d1, d2, d3, d4] }
  | _ => none }
def LawS2715CModelWrongFalsely : Prop := lawS2715CModelRow.holds Yba.pinned (OpenSpec.ofChange lawS2715CModelWrong)

/-- 'tidemark.LawS2715CSplit': WHATEVER THE INPUT: true; the input reads as it did. -/
def lawS2715CSplitSpec : ChangeSpec := { name := "lawS2715CSplit", fn := fun _ => fun
  | [d1, d2, d3, d4] => { results := [.lit (.bool true)], args := [d1, d2, d3, d4] }
  | _ => none }
def lawS2715CSplitRow : OpenClaim := { program := "ybulkbdey", sum := "547f1f7c083d34b742045aaee55af29e5313db6d50eb64e15e8b922fbe4b9a6c", func := "example.com/tidemark/tidemark.LawS2715CSplit", spec := "lawS2715CSplit", recurses := true, named := ["encoding/binary.BigEndian"], apart := false }
def LawS2715CSplitSaid : Prop := lawS2715CSplitRow.holds Yba.pinned (OpenSpec.ofChange lawS2715CSplitSpec)

/-- ITS FALSE NEIGHBOUR: 'it returns false'. Refute it at one input. -/
def lawS2715CSplitWrong : ChangeSpec := { name := "lawS2715CSplit", fn := fun _ => fun
  | [d1, d2, d3, d4] => { results := [.lit (.bool false)], args := [d1, d2, d3, d4] }
  | _ => none }
def LawS2715CSplitWrongFalsely : Prop := lawS2715CSplitRow.holds Yba.pinned (OpenSpec.ofChange lawS2715CSplitWrong)

end Rows
end Go.Proofs.Ybulkbdey
