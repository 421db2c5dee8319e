/-
  DERIVED. GIVEN WITH THE SEED: THE CARDS: each row of YbulkstgFmtRows.lean that lists a variable, with what it lists TIED to the program's text (the seventh form; the later family's looks); each row that meets fmt, with fmt's text TOLD by the authors' own Lean function (tested against real Go, not proved from fmt's source: count such statements apart). THE CARD IS WHAT COUNTS. Prove the row's statement (the work); the ties are given (YbulkstgFmtTie.lean); close each card by the builder's one call (the guide's Derived/Test/ToyasCard.lean, 'card_holds'). Laid BY PROGRAM, IN A SANDBOX (cutbox-door.mjs). By AI agents, Wed Nov 11 2026. No macro, syntax, notation, axiom, sorry.
-/
import Derived.Test.YbulkstgFmtRows
import GoSem.ClaimSeven
namespace Go.Proofs.YbulkstgFmt
namespace Rows

/-- THE TOLD CARD OF 'asn1.LawS0955CValueRange'. -/
def lawS0955CValueRangeCard : Claim7 := { stood := { row := lawS0955CValueRangeRow, standIns := [], harness := (true, "736763cb2f6e932ddcc6c8caad72bd9554bff14997e9b2f3e5f73dc4f266a0ee"), looks := true }, told := true, goes := false }
def LawS0955CValueRangeToldSaid : Prop := Claim7.holds Ybaf.pinned (.plain (OpenSpec.ofChange lawS0955CValueRangeSpec)) lawS0955CValueRangeCard
/-- ITS FALSE NEIGHBOUR. Refute it at one input. -/
def LawS0955CValueRangeToldWrongFalsely : Prop := Claim7.holds Ybaf.pinned (.plain (OpenSpec.ofChange lawS0955CValueRangeWrong)) lawS0955CValueRangeCard

/-- THE TOLD CARD OF 'asn1.LawS0955CUnsupported'. -/
def lawS0955CUnsupportedCard : Claim7 := { stood := { row := lawS0955CUnsupportedRow, standIns := [], harness := (true, "736763cb2f6e932ddcc6c8caad72bd9554bff14997e9b2f3e5f73dc4f266a0ee"), looks := true }, told := true, goes := false }
def LawS0955CUnsupportedToldSaid : Prop := Claim7.holds Ybaf.pinned (.plain (OpenSpec.ofChange lawS0955CUnsupportedSpec)) lawS0955CUnsupportedCard
/-- ITS FALSE NEIGHBOUR. Refute it at one input. -/
def LawS0955CUnsupportedToldWrongFalsely : Prop := Claim7.holds Ybaf.pinned (.plain (OpenSpec.ofChange lawS0955CUnsupportedWrong)) lawS0955CUnsupportedCard

/-- THE TOLD CARD OF 'asn1.LawS0955CSizeNested'. -/
def lawS0955CSizeNestedCard : Claim7 := { stood := { row := lawS0955CSizeNestedRow, standIns := [], harness := (true, "736763cb2f6e932ddcc6c8caad72bd9554bff14997e9b2f3e5f73dc4f266a0ee"), looks := true }, told := true, goes := false }
def LawS0955CSizeNestedToldSaid : Prop := Claim7.holds Ybaf.pinned (.plain (OpenSpec.ofChange lawS0955CSizeNestedSpec)) lawS0955CSizeNestedCard
/-- ITS FALSE NEIGHBOUR. Refute it at one input. -/
def LawS0955CSizeNestedToldWrongFalsely : Prop := Claim7.holds Ybaf.pinned (.plain (OpenSpec.ofChange lawS0955CSizeNestedWrong)) lawS0955CSizeNestedCard
end Rows
end Go.Proofs.YbulkstgFmt
