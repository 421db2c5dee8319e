/-
  NARROWER THAN 'FOR EVERY INPUT', by the rows' own cells (each row's printed sentence says how): LawS0963CRuns: laid.
  DERIVED. THE GIVEN ROWS OF THIS SEAT. 1 by the template 'for every input the law returns true; each argument reads behind the call as it read before'; 0 by the template 'total and deterministic' (their statements: YbulksxoFmtTotals.lean).
  GIVEN WITH THE SEED: the statements are not yours to turn. If you find one false, say at which input.
  Laid BY PROGRAM, IN A SANDBOX (cutbox-rows.mjs): the forced cells as the released guide's own fill.sh prints them over the translation 71d5bd2183e57ff4… (all of the seat's roots in one cut). By AI agents, Wed Nov 11 2026. No macro, syntax, notation, axiom, sorry.
-/
import Derived.Test.YbulksxoFmtChecked
import GoSem.Claim
import GoSem.ClaimJoined
import GoSem.ClaimMapViews
import Derived.JoinedTies
import Derived.KernelRfl
namespace Go.Proofs.YbulksxoFmt
/- THE CELL 'sum', in the pinned program and in every row, IS THE sha256 OF THE DUMP (.gsa) THAT YbulksxoFmtProg.lean LOADS. Nothing in Lean hashes anything: it is a label: what it is worth is what the hold of that sum in a sandbox is worth. -/
noncomputable def Ybaf.pinned : Pinned := { name := "ybulksxofmt", sum := "71d5bd2183e57ff441d21010a3f4f7b4fb9838a52f1a07912bb70d9ff4e5da2c", checked := Ybaf.checked }
namespace Rows
def none {H : Type} : Left H := { results := [], args := [] }

/- WHAT THE LISTED PACKAGE-LEVEL VARIABLES READ AS WHEN THE CALL BEGINS. Each datum BY PROGRAM (the guide's laid-datum.mjs) off the statement by which the dump's own 'gosem.cut.vars' lays the variable. In a bare row this is a premise. The card (YbulksxoFmtCards.lean) ties it to the program's text. -/
def laid_example_com_moovwright_moovwright_internal_mp4_typeCo64 {H : Type} : DataW H := .agg [.lit (.int .u8 99), .lit (.int .u8 111), .lit (.int .u8 54), .lit (.int .u8 52)]
def laid_example_com_moovwright_moovwright_internal_mp4_typeCtts {H : Type} : DataW H := .agg [.lit (.int .u8 99), .lit (.int .u8 116), .lit (.int .u8 116), .lit (.int .u8 115)]
def laid_example_com_moovwright_moovwright_internal_mp4_typeStco {H : Type} : DataW H := .agg [.lit (.int .u8 115), .lit (.int .u8 116), .lit (.int .u8 99), .lit (.int .u8 111)]
def laid_example_com_moovwright_moovwright_internal_mp4_typeStsc {H : Type} : DataW H := .agg [.lit (.int .u8 115), .lit (.int .u8 116), .lit (.int .u8 115), .lit (.int .u8 99)]
def laid_example_com_moovwright_moovwright_internal_mp4_typeStss {H : Type} : DataW H := .agg [.lit (.int .u8 115), .lit (.int .u8 116), .lit (.int .u8 115), .lit (.int .u8 115)]
def laid_example_com_moovwright_moovwright_internal_mp4_typeStsz {H : Type} : DataW H := .agg [.lit (.int .u8 115), .lit (.int .u8 116), .lit (.int .u8 115), .lit (.int .u8 122)]
def laid_example_com_moovwright_moovwright_internal_mp4_typeStts {H : Type} : DataW H := .agg [.lit (.int .u8 115), .lit (.int .u8 116), .lit (.int .u8 116), .lit (.int .u8 115)]

/-- 'mp4.LawS0963CRuns': WHATEVER THE INPUT: true; the input reads as it did. -/
def lawS0963CRunsSpec : ChangeSpec := { name := "lawS0963CRuns", vars := ["example.com/moovwright/moovwright/internal/mp4.typeStts", "example.com/moovwright/moovwright/internal/mp4.typeCtts", "example.com/moovwright/moovwright/internal/mp4.typeStsz", "example.com/moovwright/moovwright/internal/mp4.typeStsc", "example.com/moovwright/moovwright/internal/mp4.typeStco", "example.com/moovwright/moovwright/internal/mp4.typeStss", "example.com/moovwright/moovwright/internal/mp4.typeCo64"], fn := fun _ => fun
  | [d, g1, g2, g3, g4, g5, g6, g7] => { results := [.lit (.bool true)], args := [d], vars := [g1, g2, g3, g4, g5, g6, g7] }
  | _ => none }
def lawS0963CRunsRow : OpenClaim := { program := "ybulksxofmt", sum := "71d5bd2183e57ff441d21010a3f4f7b4fb9838a52f1a07912bb70d9ff4e5da2c", func := "example.com/moovwright/moovwright/internal/mp4.LawS0963CRuns", spec := "lawS0963CRuns", stops := ["fmt.errorf"], inPlace := ["fmt.errorf"], named := ["example.com/moovwright/moovwright/internal/mp4.typeStts", "example.com/moovwright/moovwright/internal/mp4.typeCtts", "example.com/moovwright/moovwright/internal/mp4.typeStsz", "example.com/moovwright/moovwright/internal/mp4.typeStsc", "example.com/moovwright/moovwright/internal/mp4.typeStco", "example.com/moovwright/moovwright/internal/mp4.typeStss", "encoding/binary.BigEndian", "example.com/moovwright/moovwright/internal/mp4.typeCo64"], apart := false, laid := [("example.com/moovwright/moovwright/internal/mp4.typeCo64", laid_example_com_moovwright_moovwright_internal_mp4_typeCo64), ("example.com/moovwright/moovwright/internal/mp4.typeCtts", laid_example_com_moovwright_moovwright_internal_mp4_typeCtts), ("example.com/moovwright/moovwright/internal/mp4.typeStco", laid_example_com_moovwright_moovwright_internal_mp4_typeStco), ("example.com/moovwright/moovwright/internal/mp4.typeStsc", laid_example_com_moovwright_moovwright_internal_mp4_typeStsc), ("example.com/moovwright/moovwright/internal/mp4.typeStss", laid_example_com_moovwright_moovwright_internal_mp4_typeStss), ("example.com/moovwright/moovwright/internal/mp4.typeStsz", laid_example_com_moovwright_moovwright_internal_mp4_typeStsz), ("example.com/moovwright/moovwright/internal/mp4.typeStts", laid_example_com_moovwright_moovwright_internal_mp4_typeStts)] }
/-- NO THEOREM (fmt's text is open here; it may be false): for the released tool's asking of the row's closed facts alone. THE STATEMENT IS 'LawS0963CRunsToldSaid' (YbulksxoFmtCards.lean). -/
def LawS0963CRunsFormAsk : Prop := lawS0963CRunsRow.holds Ybaf.pinned (OpenSpec.ofChange lawS0963CRunsSpec)

/-- ITS FALSE NEIGHBOUR: 'it returns false'. Refute it at one input. -/
def lawS0963CRunsWrong : ChangeSpec := { name := "lawS0963CRuns", vars := ["example.com/moovwright/moovwright/internal/mp4.typeStts", "example.com/moovwright/moovwright/internal/mp4.typeCtts", "example.com/moovwright/moovwright/internal/mp4.typeStsz", "example.com/moovwright/moovwright/internal/mp4.typeStsc", "example.com/moovwright/moovwright/internal/mp4.typeStco", "example.com/moovwright/moovwright/internal/mp4.typeStss", "example.com/moovwright/moovwright/internal/mp4.typeCo64"], fn := fun _ => fun
  | [d, g1, g2, g3, g4, g5, g6, g7] => { results := [.lit (.bool false)], args := [d], vars := [g1, g2, g3, g4, g5, g6, g7] }
  | _ => none }
def LawS0963CRunsWrongFormAsk : Prop := lawS0963CRunsRow.holds Ybaf.pinned (OpenSpec.ofChange lawS0963CRunsWrong)

end Rows
end Go.Proofs.YbulksxoFmt
