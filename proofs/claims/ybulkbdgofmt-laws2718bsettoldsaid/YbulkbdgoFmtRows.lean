/-
  NARROWER THAN 'FOR EVERY INPUT', by the rows' own cells (each row's printed sentence says how): LawS2718BSet: laid · LawS2718BRoundTrip: laid · LawS2718CRoundTrip: laid · LawS2718CDecode: laid.
  DERIVED. THE GIVEN ROWS OF THIS SEAT. 4 by the template 'for every input the law returns true; each argument reads behind the call as it read before'; 0 by the template 'total and deterministic' (their statements: YbulkbdgoFmtTotals.lean).
  GIVEN WITH THE SEED: the statements are not yours to turn. If you find one false, say at which input.
  Laid BY PROGRAM, IN A SANDBOX (cutbox-rows.mjs): the forced cells as the released guide's own fill.sh prints them over the translation cc05a247030ecd6b… (all of the seat's roots in one cut). By AI agents, Wed Nov 11 2026. No macro, syntax, notation, axiom, sorry.
-/
import Derived.Test.YbulkbdgoFmtChecked
import GoSem.Claim
import GoSem.ClaimJoined
import GoSem.ClaimMapViews
import Derived.JoinedTies
import Derived.KernelRfl
namespace Go.Proofs.YbulkbdgoFmt
/- THE CELL 'sum', in the pinned program and in every row, IS THE sha256 OF THE DUMP (.gsa) THAT YbulkbdgoFmtProg.lean LOADS. Nothing in Lean hashes anything: it is a label: what it is worth is what the hold of that sum in a sandbox is worth. -/
noncomputable def Ybaf.pinned : Pinned := { name := "ybulkbdgofmt", sum := "cc05a247030ecd6b54a1b472f7148475f758f63507d3e938207be39597f95dfe", checked := Ybaf.checked }
namespace Rows
def none {H : Type} : Left H := { results := [], args := [] }

/- WHAT THE LISTED PACKAGE-LEVEL VARIABLES READ AS WHEN THE CALL BEGINS. Each datum BY PROGRAM (the guide's laid-datum.mjs) off the statement by which the dump's own 'gosem.cut.vars' lays the variable. In a bare row this is a premise. The card (YbulkbdgoFmtCards.lean) ties it to the program's text. -/
def laid_encoding_hex_ErrLength {H : Type} : DataW H := .iface "*errors.errorString" (.ptr (.agg [.lit (.string [101, 110, 99, 111, 100, 105, 110, 103, 47, 104, 101, 120, 58, 32, 111, 100, 100, 32, 108, 101, 110, 103, 116, 104, 32, 104, 101, 120, 32, 115, 116, 114, 105, 110, 103])]))

/-- 'keyest.LawS2718BSet': WHATEVER THE INPUT: true; the input reads as it did. -/
def lawS2718BSetSpec : ChangeSpec := { name := "lawS2718BSet", fn := fun _ => fun
  | [d1, d2, d3, d4, d5] => { results := [.lit (.bool true)], args := [d1, d2, d3, d4, d5] }
  | _ => none }
def lawS2718BSetRow : OpenClaim := { program := "ybulkbdgofmt", sum := "cc05a247030ecd6b54a1b472f7148475f758f63507d3e938207be39597f95dfe", func := "example.com/halyard/halyard/keyest.LawS2718BSet", spec := "lawS2718BSet", stops := ["fmt.errorf, its operands' methods called", "fmt.Sprintf"], inPlace := ["fmt.errorf"], unfollowed := true, recurses := true, named := ["encoding/hex.ErrLength"], apart := false, laid := [("encoding/hex.ErrLength", laid_encoding_hex_ErrLength)] }
/-- NO THEOREM (fmt's text is open here; it may be false): for the released tool's asking of the row's closed facts alone. THE STATEMENT IS 'LawS2718BSetToldSaid' (YbulkbdgoFmtCards.lean). -/
def LawS2718BSetFormAsk : Prop := lawS2718BSetRow.holds Ybaf.pinned (OpenSpec.ofChange lawS2718BSetSpec)

/-- ITS FALSE NEIGHBOUR: 'it returns false'. Refute it at one input. -/
def lawS2718BSetWrong : ChangeSpec := { name := "lawS2718BSet", fn := fun _ => fun
  | [d1, d2, d3, d4, d5] => { results := [.lit (.bool false)], args := [d1, d2, d3, d4, d5] }
  | _ => none }
def LawS2718BSetWrongFormAsk : Prop := lawS2718BSetRow.holds Ybaf.pinned (OpenSpec.ofChange lawS2718BSetWrong)

/-- 'keyest.LawS2718BRoundTrip': WHATEVER THE INPUT: true; the input reads as it did. -/
def lawS2718BRoundTripSpec : ChangeSpec := { name := "lawS2718BRoundTrip", fn := fun _ => fun
  | [d1, d2, d3, d4, d5] => { results := [.lit (.bool true)], args := [d1, d2, d3, d4, d5] }
  | _ => none }
def lawS2718BRoundTripRow : OpenClaim := { program := "ybulkbdgofmt", sum := "cc05a247030ecd6b54a1b472f7148475f758f63507d3e938207be39597f95dfe", func := "example.com/halyard/halyard/keyest.LawS2718BRoundTrip", spec := "lawS2718BRoundTrip", stops := ["fmt.errorf, its operands' methods called", "fmt.Sprintf"], inPlace := ["fmt.errorf"], unfollowed := true, recurses := true, named := ["encoding/hex.ErrLength"], apart := false, laid := [("encoding/hex.ErrLength", laid_encoding_hex_ErrLength)] }
/-- NO THEOREM (fmt's text is open here; it may be false): for the released tool's asking of the row's closed facts alone. THE STATEMENT IS 'LawS2718BRoundTripToldSaid' (YbulkbdgoFmtCards.lean). -/
def LawS2718BRoundTripFormAsk : Prop := lawS2718BRoundTripRow.holds Ybaf.pinned (OpenSpec.ofChange lawS2718BRoundTripSpec)

/-- ITS FALSE NEIGHBOUR: 'it returns false'. Refute it at one input. -/
def lawS2718BRoundTripWrong : ChangeSpec := { name := "lawS2718BRoundTrip", fn := fun _ => fun
  | [d1, d2, d3, d4, d5] => { results := [.lit (.bool false)], args := [d1, d2, d3, d4, d5] }
  | _ => none }
def LawS2718BRoundTripWrongFormAsk : Prop := lawS2718BRoundTripRow.holds Ybaf.pinned (OpenSpec.ofChange lawS2718BRoundTripWrong)

/-- 'statedir.LawS2718CRoundTrip': WHATEVER THE INPUT: true; the input reads as it did. -/
def lawS2718CRoundTripSpec : ChangeSpec := { name := "lawS2718CRoundTrip", fn := fun _ => fun
  | [d1, d2, d3, d4] => { results := [.lit (.bool true)], args := [d1, d2, d3, d4] }
  | _ => none }
def lawS2718CRoundTripRow : OpenClaim := { program := "ybulkbdgofmt", sum := "cc05a247030ecd6b54a1b472f7148475f758f63507d3e938207be39597f95dfe", func := "example.com/halyard/halyard/statedir.LawS2718CRoundTrip", spec := "lawS2718CRoundTrip", stops := ["fmt.errorf, its operands' methods called", "fmt.Sprintf"], inPlace := ["fmt.errorf"], unfollowed := true, recurses := true, named := ["encoding/hex.ErrLength"], apart := false, laid := [("encoding/hex.ErrLength", laid_encoding_hex_ErrLength)] }
/-- NO THEOREM (fmt's text is open here; it may be false): for the released tool's asking of the row's closed facts alone. THE STATEMENT IS 'LawS2718CRoundTripToldSaid' (YbulkbdgoFmtCards.lean). -/
def LawS2718CRoundTripFormAsk : Prop := lawS2718CRoundTripRow.holds Ybaf.pinned (OpenSpec.ofChange lawS2718CRoundTripSpec)

/-- ITS FALSE NEIGHBOUR: 'it returns false'. Refute it at one input. -/
def lawS2718CRoundTripWrong : ChangeSpec := { name := "lawS2718CRoundTrip", fn := fun _ => fun
  | [d1, d2, d3, d4] => { results := [.lit (.bool false)], args := [d1, d2, d3, d4] }
  | _ => none }
def LawS2718CRoundTripWrongFormAsk : Prop := lawS2718CRoundTripRow.holds Ybaf.pinned (OpenSpec.ofChange lawS2718CRoundTripWrong)

/-- 'statedir.LawS2718CDecode': WHATEVER THE INPUT: true; the input reads as it did. -/
def lawS2718CDecodeSpec : ChangeSpec := { name := "lawS2718CDecode", fn := fun _ => fun
  | [d1, d2, d3] => { results := [.lit (.bool true)], args := [d1, d2, d3] }
  | _ => none }
def lawS2718CDecodeRow : OpenClaim := { program := "ybulkbdgofmt", sum := "cc05a247030ecd6b54a1b472f7148475f758f63507d3e938207be39597f95dfe", func := "example.com/halyard/halyard/statedir.LawS2718CDecode", spec := "lawS2718CDecode", stops := ["fmt.errorf, its operands' methods called", "fmt.Sprintf"], inPlace := ["fmt.errorf"], unfollowed := true, recurses := true, named := ["encoding/hex.ErrLength"], apart := false, laid := [("encoding/hex.ErrLength", laid_encoding_hex_ErrLength)] }
/-- NO THEOREM (fmt's text is open here; it may be false): for the released tool's asking of the row's closed facts alone. THE STATEMENT IS 'LawS2718CDecodeToldSaid' (YbulkbdgoFmtCards.lean). -/
def LawS2718CDecodeFormAsk : Prop := lawS2718CDecodeRow.holds Ybaf.pinned (OpenSpec.ofChange lawS2718CDecodeSpec)

/-- ITS FALSE NEIGHBOUR: 'it returns false'. Refute it at one input. -/
def lawS2718CDecodeWrong : ChangeSpec := { name := "lawS2718CDecode", fn := fun _ => fun
  | [d1, d2, d3] => { results := [.lit (.bool false)], args := [d1, d2, d3] }
  | _ => none }
def LawS2718CDecodeWrongFormAsk : Prop := lawS2718CDecodeRow.holds Ybaf.pinned (OpenSpec.ofChange lawS2718CDecodeWrong)

end Rows
end Go.Proofs.YbulkbdgoFmt
