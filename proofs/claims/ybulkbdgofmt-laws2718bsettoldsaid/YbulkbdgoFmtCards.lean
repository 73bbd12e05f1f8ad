/-
  DERIVED. GIVEN WITH THE SEED: THE CARDS: each row of YbulkbdgoFmtRows.lean that lists a variable, with what it lists TIED to the program's text (the seventh form; the later family's looks); each row that meets fmt, with fmt's text TOLD by the authors' own Lean function (tested against real Go, not proved from fmt's source: count such statements apart). THE CARD IS WHAT COUNTS. Prove the row's statement (the work); the ties are given (YbulkbdgoFmtTie.lean); close each card by the builder's one call (the guide's Derived/Test/ToyasCard.lean, 'card_holds'). Laid BY PROGRAM, IN A SANDBOX (cutbox-door.mjs). By AI agents, Wed Nov 11 2026. No macro, syntax, notation, axiom, sorry.
-/
import Derived.Test.YbulkbdgoFmtRows
import GoSem.ClaimSeven
namespace Go.Proofs.YbulkbdgoFmt
namespace Rows

/-- THE TOLD AND TIED CARD OF 'keyest.LawS2718BSet'. -/
def lawS2718BSetCard : Claim7 := { stood := { row := lawS2718BSetRow, standIns := [], harness := (true, "a687f8f8db5ec0c7203dd186fee7441fc86161ad0e6e579bbf514b757b735da8"), looks := false }, told := true, laidByText := true, laidKinds := [.sentinel], laidTests := true, laidLooks := .later, goes := false }
def LawS2718BSetToldSaid : Prop := Claim7.holds Ybaf.pinned (.plain (OpenSpec.ofChange lawS2718BSetSpec)) lawS2718BSetCard
/-- ITS FALSE NEIGHBOUR. Refute it at one input. -/
def LawS2718BSetToldWrongFalsely : Prop := Claim7.holds Ybaf.pinned (.plain (OpenSpec.ofChange lawS2718BSetWrong)) lawS2718BSetCard

/-- THE TOLD AND TIED CARD OF 'keyest.LawS2718BRoundTrip'. -/
def lawS2718BRoundTripCard : Claim7 := { stood := { row := lawS2718BRoundTripRow, standIns := [], harness := (true, "a687f8f8db5ec0c7203dd186fee7441fc86161ad0e6e579bbf514b757b735da8"), looks := false }, told := true, laidByText := true, laidKinds := [.sentinel], laidTests := true, laidLooks := .later, goes := false }
def LawS2718BRoundTripToldSaid : Prop := Claim7.holds Ybaf.pinned (.plain (OpenSpec.ofChange lawS2718BRoundTripSpec)) lawS2718BRoundTripCard
/-- ITS FALSE NEIGHBOUR. Refute it at one input. -/
def LawS2718BRoundTripToldWrongFalsely : Prop := Claim7.holds Ybaf.pinned (.plain (OpenSpec.ofChange lawS2718BRoundTripWrong)) lawS2718BRoundTripCard

/-- THE TOLD AND TIED CARD OF 'statedir.LawS2718CRoundTrip'. -/
def lawS2718CRoundTripCard : Claim7 := { stood := { row := lawS2718CRoundTripRow, standIns := [], harness := (true, "a687f8f8db5ec0c7203dd186fee7441fc86161ad0e6e579bbf514b757b735da8"), looks := false }, told := true, laidByText := true, laidKinds := [.sentinel], laidTests := true, laidLooks := .later, goes := false }
def LawS2718CRoundTripToldSaid : Prop := Claim7.holds Ybaf.pinned (.plain (OpenSpec.ofChange lawS2718CRoundTripSpec)) lawS2718CRoundTripCard
/-- ITS FALSE NEIGHBOUR. Refute it at one input. -/
def LawS2718CRoundTripToldWrongFalsely : Prop := Claim7.holds Ybaf.pinned (.plain (OpenSpec.ofChange lawS2718CRoundTripWrong)) lawS2718CRoundTripCard

/-- THE TOLD AND TIED CARD OF 'statedir.LawS2718CDecode'. -/
def lawS2718CDecodeCard : Claim7 := { stood := { row := lawS2718CDecodeRow, standIns := [], harness := (true, "a687f8f8db5ec0c7203dd186fee7441fc86161ad0e6e579bbf514b757b735da8"), looks := false }, told := true, laidByText := true, laidKinds := [.sentinel], laidTests := true, laidLooks := .later, goes := false }
def LawS2718CDecodeToldSaid : Prop := Claim7.holds Ybaf.pinned (.plain (OpenSpec.ofChange lawS2718CDecodeSpec)) lawS2718CDecodeCard
/-- ITS FALSE NEIGHBOUR. Refute it at one input. -/
def LawS2718CDecodeToldWrongFalsely : Prop := Claim7.holds Ybaf.pinned (.plain (OpenSpec.ofChange lawS2718CDecodeWrong)) lawS2718CDecodeCard
end Rows
end Go.Proofs.YbulkbdgoFmt
