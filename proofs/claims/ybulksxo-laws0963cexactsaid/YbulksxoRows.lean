/-
  No cell of these rows narrows 'for every input' (looked for: loops, veiled, ifaces, maps, wideKeys, modest, calm, conditions, laid).
  DERIVED. THE GIVEN ROWS OF THIS SEAT. 1 by the template 'for every input the law returns true; each argument reads behind the call as it read before'; 0 by the template 'total and deterministic' (their statements: YbulksxoTotals.lean).
  GIVEN WITH THE SEED: the statements are not yours to turn. If you find one false, say at which input.
  Laid BY PROGRAM, IN A SANDBOX (cutbox-rows.mjs): the forced cells as the released guide's own fill.sh prints them over the translation cf5968f242cafe0e… (all of the seat's roots in one cut). By AI agents, Wed Nov 11 2026. No macro, syntax, notation, axiom, sorry.
-/
import Derived.Test.YbulksxoChecked
import GoSem.Claim
import GoSem.ClaimJoined
import GoSem.ClaimMapViews
import Derived.JoinedTies
import Derived.KernelRfl
namespace Go.Proofs.Ybulksxo
/- THE CELL 'sum', in the pinned program and in every row, IS THE sha256 OF THE DUMP (.gsa) THAT YbulksxoProg.lean LOADS. Nothing in Lean hashes anything: it is a label: what it is worth is what the hold of that sum in a sandbox is worth. -/
noncomputable def Yba.pinned : Pinned := { name := "ybulksxo", sum := "cf5968f242cafe0e68f68086a6bad563b249b69172fd78cd50cc632634cb0df8", checked := Yba.checked }
namespace Rows
def none {H : Type} : Left H := { results := [], args := [] }

/-- 'mp4.LawS0963CExact': WHATEVER THE INPUT: true; the input reads as it did. -/
def lawS0963CExactSpec : ChangeSpec := { name := "lawS0963CExact", fn := fun _ => fun
  | [d1, d2, d3, d4, d5] => { results := [.lit (.bool true)], args := [d1, d2, d3, d4, d5] }
  | _ => none }
def lawS0963CExactRow : OpenClaim := { program := "ybulksxo", sum := "cf5968f242cafe0e68f68086a6bad563b249b69172fd78cd50cc632634cb0df8", func := "example.com/moovwright/moovwright/internal/mp4.LawS0963CExact", spec := "lawS0963CExact", named := ["encoding/binary.BigEndian"], apart := false }
def LawS0963CExactSaid : Prop := lawS0963CExactRow.holds Yba.pinned (OpenSpec.ofChange lawS0963CExactSpec)

/-- ITS FALSE NEIGHBOUR: 'it returns false'. Refute it at one input. -/
def lawS0963CExactWrong : ChangeSpec := { name := "lawS0963CExact", fn := fun _ => fun
  | [d1, d2, d3, d4, d5] => { results := [.lit (.bool false)], args := [d1, d2, d3, d4, d5] }
  | _ => none }
def LawS0963CExactWrongFalsely : Prop := lawS0963CExactRow.holds Yba.pinned (OpenSpec.ofChange lawS0963CExactWrong)

end Rows
end Go.Proofs.Ybulksxo
