/-
  No cell of these rows narrows 'for every input' (looked for: loops, veiled, ifaces, maps, wideKeys, modest, calm, conditions, laid).
  DERIVED. THE GIVEN ROWS OF THIS SEAT. 3 by the template 'for every input the law returns true; each argument reads behind the call as it read before'; 0 by the template 'total and deterministic' (their statements: YbulkstgFmtTotals.lean).
  GIVEN WITH THE SEED: the statements are not yours to turn. If you find one false, say at which input.
  Laid BY PROGRAM, IN A SANDBOX (cutbox-rows.mjs): the forced cells as the released guide's own fill.sh prints them over the translation 71e4f8c2e3a0b9f9… (all of the seat's roots in one cut). By AI agents, Wed Nov 11 2026. No macro, syntax, notation, axiom, sorry.
-/
import Derived.Test.YbulkstgFmtChecked
import GoSem.Claim
import GoSem.ClaimJoined
import GoSem.ClaimMapViews
import Derived.JoinedTies
import Derived.KernelRfl
namespace Go.Proofs.YbulkstgFmt
/- THE CELL 'sum', in the pinned program and in every row, IS THE sha256 OF THE DUMP (.gsa) THAT YbulkstgFmtProg.lean LOADS. Nothing in Lean hashes anything: it is a label: what it is worth is what the hold of that sum in a sandbox is worth. -/
noncomputable def Ybaf.pinned : Pinned := { name := "ybulkstgfmt", sum := "71e4f8c2e3a0b9f933ea3579ae62f37ea1836ce7dccec1e1d3e7a4b48b1ebbe0", checked := Ybaf.checked }
namespace Rows
def none {H : Type} : Left H := { results := [], args := [] }

/-- 'asn1.LawS0955CValueRange': WHATEVER THE INPUT: true; the input reads as it did. -/
def lawS0955CValueRangeSpec : ChangeSpec := { name := "lawS0955CValueRange", fn := fun _ => fun
  | [d1, d2] => { results := [.lit (.bool true)], args := [d1, d2] }
  | _ => none }
def lawS0955CValueRangeRow : OpenClaim := { program := "ybulkstgfmt", sum := "71e4f8c2e3a0b9f933ea3579ae62f37ea1836ce7dccec1e1d3e7a4b48b1ebbe0", func := "example.com/cellgram/cellgram/internal/asn1.LawS0955CValueRange", spec := "lawS0955CValueRange", stops := ["fmt.Sprintf, its operands' methods called"], inPlace := ["fmt.Sprintf"], unfollowed := true, recurses := true, apart := false }
/-- NO THEOREM (fmt's text is open here; it may be false): for the released tool's asking of the row's closed facts alone. THE STATEMENT IS 'LawS0955CValueRangeToldSaid' (YbulkstgFmtCards.lean). -/
def LawS0955CValueRangeFormAsk : Prop := lawS0955CValueRangeRow.holds Ybaf.pinned (OpenSpec.ofChange lawS0955CValueRangeSpec)

/-- ITS FALSE NEIGHBOUR: 'it returns false'. Refute it at one input. -/
def lawS0955CValueRangeWrong : ChangeSpec := { name := "lawS0955CValueRange", fn := fun _ => fun
  | [d1, d2] => { results := [.lit (.bool false)], args := [d1, d2] }
  | _ => none }
def LawS0955CValueRangeWrongFormAsk : Prop := lawS0955CValueRangeRow.holds Ybaf.pinned (OpenSpec.ofChange lawS0955CValueRangeWrong)

/-- 'asn1.LawS0955CUnsupported': WHATEVER THE INPUT: true; the input reads as it did. -/
def lawS0955CUnsupportedSpec : ChangeSpec := { name := "lawS0955CUnsupported", fn := fun _ => fun
  | [d1, d2, d3] => { results := [.lit (.bool true)], args := [d1, d2, d3] }
  | _ => none }
def lawS0955CUnsupportedRow : OpenClaim := { program := "ybulkstgfmt", sum := "71e4f8c2e3a0b9f933ea3579ae62f37ea1836ce7dccec1e1d3e7a4b48b1ebbe0", func := "example.com/cellgram/cellgram/internal/asn1.LawS0955CUnsupported", spec := "lawS0955CUnsupported", stops := ["fmt.Sprintf, its operands' methods called"], inPlace := ["fmt.Sprintf"], unfollowed := true, recurses := true, apart := false }
/-- NO THEOREM (fmt's text is open here; it may be false): for the released tool's asking of the row's closed facts alone. THE STATEMENT IS 'LawS0955CUnsupportedToldSaid' (YbulkstgFmtCards.lean). -/
def LawS0955CUnsupportedFormAsk : Prop := lawS0955CUnsupportedRow.holds Ybaf.pinned (OpenSpec.ofChange lawS0955CUnsupportedSpec)

/-- ITS FALSE NEIGHBOUR: 'it returns false'. Refute it at one input. -/
def lawS0955CUnsupportedWrong : ChangeSpec := { name := "lawS0955CUnsupported", fn := fun _ => fun
  | [d1, d2, d3] => { results := [.lit (.bool false)], args := [d1, d2, d3] }
  | _ => none }
def LawS0955CUnsupportedWrongFormAsk : Prop := lawS0955CUnsupportedRow.holds Ybaf.pinned (OpenSpec.ofChange lawS0955CUnsupportedWrong)

/-- 'asn1.LawS0955CSizeNested': WHATEVER THE INPUT: true; the input reads as it did. -/
def lawS0955CSizeNestedSpec : ChangeSpec := { name := "lawS0955CSizeNested", fn := fun _ => fun
  | [d1, d2] => { results := [.lit (.bool true)], args := [d1, d2] }
  | _ => none }
def lawS0955CSizeNestedRow : OpenClaim := { program := "ybulkstgfmt", sum := "71e4f8c2e3a0b9f933ea3579ae62f37ea1836ce7dccec1e1d3e7a4b48b1ebbe0", func := "example.com/cellgram/cellgram/internal/asn1.LawS0955CSizeNested", spec := "lawS0955CSizeNested", stops := ["fmt.Sprintf, its operands' methods called"], inPlace := ["fmt.Sprintf"], unfollowed := true, recurses := true, apart := false }
/-- NO THEOREM (fmt's text is open here; it may be false): for the released tool's asking of the row's closed facts alone. THE STATEMENT IS 'LawS0955CSizeNestedToldSaid' (YbulkstgFmtCards.lean). -/
def LawS0955CSizeNestedFormAsk : Prop := lawS0955CSizeNestedRow.holds Ybaf.pinned (OpenSpec.ofChange lawS0955CSizeNestedSpec)

/-- ITS FALSE NEIGHBOUR: 'it returns false'. Refute it at one input. -/
def lawS0955CSizeNestedWrong : ChangeSpec := { name := "lawS0955CSizeNested", fn := fun _ => fun
  | [d1, d2] => { results := [.lit (.bool false)], args := [d1, d2] }
  | _ => none }
def LawS0955CSizeNestedWrongFormAsk : Prop := lawS0955CSizeNestedRow.holds Ybaf.pinned (OpenSpec.ofChange lawS0955CSizeNestedWrong)

end Rows
end Go.Proofs.YbulkstgFmt
