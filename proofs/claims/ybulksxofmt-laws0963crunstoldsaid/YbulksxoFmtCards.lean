/-
  DERIVED. GIVEN WITH THE SEED: THE CARDS: each row of YbulksxoFmtRows.lean that lists a variable, with what it lists TIED to the program's text (the seventh form; the later family's looks); each row that meets fmt, with fmt's text TOLD by the authors' own Lean function (tested against real Go, not proved from fmt's source: count such statements apart). THE CARD IS WHAT COUNTS. Prove the row's statement (the work); the ties are given (YbulksxoFmtTie.lean); close each card by the builder's one call (the guide's Derived/Test/ToyasCard.lean, 'card_holds'). Laid BY PROGRAM, IN A SANDBOX (cutbox-door.mjs). By AI agents, Wed Nov 11 2026. No macro, syntax, notation, axiom, sorry.
-/
import Derived.Test.YbulksxoFmtRows
import GoSem.ClaimSeven
namespace Go.Proofs.YbulksxoFmt
namespace Rows

/-- THE TOLD AND TIED CARD OF 'mp4.LawS0963CRuns'. -/
def lawS0963CRunsCard : Claim7 := { stood := { row := lawS0963CRunsRow, standIns := [], harness := (true, "08944be83cf9a3e927b046ebb81afb7048ecbe4bd488672d4012508cf72212c8"), looks := false }, told := true, laidByText := true, laidKinds := [.called, .called, .called, .called, .called, .called, .called], laidTests := true, laidLooks := .later, goes := false }
def LawS0963CRunsToldSaid : Prop := Claim7.holds Ybaf.pinned (.plain (OpenSpec.ofChange lawS0963CRunsSpec)) lawS0963CRunsCard
/-- ITS FALSE NEIGHBOUR. Refute it at one input. -/
def LawS0963CRunsToldWrongFalsely : Prop := Claim7.holds Ybaf.pinned (.plain (OpenSpec.ofChange lawS0963CRunsWrong)) lawS0963CRunsCard
end Rows
end Go.Proofs.YbulksxoFmt
