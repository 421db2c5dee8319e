/-
  No cell of these rows narrows 'for every input' (looked for: loops, veiled, ifaces, maps, wideKeys, modest, calm, conditions, laid).
  DERIVED. THE GIVEN ROWS OF THIS SEAT. 4 by the template 'for every input the law returns true; each argument reads behind the call as it read before'; 0 by the template 'total and deterministic' (their statements: YbulkstgTotals.lean).
  GIVEN WITH THE SEED: the statements are not yours to turn. If you find one false, say at which input.
  Laid BY PROGRAM, IN A SANDBOX (cutbox-rows.mjs): the forced cells as the released guide's own fill.sh prints them over the translation 7bff2c2f2089f4e8… (all of the seat's roots in one cut). By AI agents, Wed Nov 11 2026. No macro, syntax, notation, axiom, sorry.
-/
import Derived.Test.YbulkstgChecked
import GoSem.Claim
import GoSem.ClaimJoined
import GoSem.ClaimMapViews
import Derived.JoinedTies
import Derived.KernelRfl
namespace Go.Proofs.Ybulkstg
/- THE CELL 'sum', in the pinned program and in every row, IS THE sha256 OF THE DUMP (.gsa) THAT YbulkstgProg.lean LOADS. Nothing in Lean hashes anything: it is a label: what it is worth is what the hold of that sum in a sandbox is worth. -/
noncomputable def Yba.pinned : Pinned := { name := "ybulkstg", sum := "7bff2c2f2089f4e85ee6f40acf6a276ffac2a0c7b442efcd5579f502694964ff", checked := Yba.checked }
namespace Rows
def none {H : Type} : Left H := { results := [], args := [] }

/-- 'per.LawS0955AEncodes': WHATEVER THE INPUT: true; the input reads as it did. -/
def lawS0955AEncodesSpec : ChangeSpec := { name := "lawS0955AEncodes", fn := fun _ => fun
  | [d1, d2] => { results := [.lit (.bool true)], args := [d1, d2] }
  | _ => none }
def lawS0955AEncodesRow : OpenClaim := { program := "ybulkstg", sum := "7bff2c2f2089f4e85ee6f40acf6a276ffac2a0c7b442efcd5579f502694964ff", func := "example.com/cellgram/cellgram/internal/per.LawS0955AEncodes", spec := "lawS0955AEncodes", apart := false }
def LawS0955AEncodesSaid : Prop := lawS0955AEncodesRow.holds Yba.pinned (OpenSpec.ofChange lawS0955AEncodesSpec)

/-- ITS FALSE NEIGHBOUR: 'it returns false'. Refute it at one input. -/
def lawS0955AEncodesWrong : ChangeSpec := { name := "lawS0955AEncodes", fn := fun _ => fun
  | [d1, d2] => { results := [.lit (.bool false)], args := [d1, d2] }
  | _ => none }
def LawS0955AEncodesWrongFalsely : Prop := lawS0955AEncodesRow.holds Yba.pinned (OpenSpec.ofChange lawS0955AEncodesWrong)

/-- 'per.LawS0955AFragments': WHATEVER THE INPUT: true; the input reads as it did. -/
def lawS0955AFragmentsSpec : ChangeSpec := { name := "lawS0955AFragments", fn := fun _ => fun
  | [d1, d2, d3, d4] => { results := [.lit (.bool true)], args := [d1, d2, d3, d4] }
  | _ => none }
def lawS0955AFragmentsRow : OpenClaim := { program := "ybulkstg", sum := "7bff2c2f2089f4e85ee6f40acf6a276ffac2a0c7b442efcd5579f502694964ff", func := "example.com/cellgram/cellgram/internal/per.LawS0955AFragments", spec := "lawS0955AFragments", apart := false }
def LawS0955AFragmentsSaid : Prop := lawS0955AFragmentsRow.holds Yba.pinned (OpenSpec.ofChange lawS0955AFragmentsSpec)

/-- ITS FALSE NEIGHBOUR: 'it returns false'. Refute it at one input. -/
def lawS0955AFragmentsWrong : ChangeSpec := { name := "lawS0955AFragments", fn := fun _ => fun
  | [d1, d2, d3, d4] => { results := [.lit (.bool false)], args := [d1, d2, d3, d4] }
  | _ => none }
def LawS0955AFragmentsWrongFalsely : Prop := lawS0955AFragmentsRow.holds Yba.pinned (OpenSpec.ofChange lawS0955AFragmentsWrong)

/-- 'asn1.LawS0955BExact': WHATEVER THE INPUT: true; the input reads as it did. -/
def lawS0955BExactSpec : ChangeSpec := { name := "lawS0955BExact", fn := fun _ => fun
  | [d1, d2, d3, d4] => { results := [.lit (.bool true)], args := [d1, d2, d3, d4] }
  | _ => none }
def lawS0955BExactRow : OpenClaim := { program := "ybulkstg", sum := "7bff2c2f2089f4e85ee6f40acf6a276ffac2a0c7b442efcd5579f502694964ff", func := "example.com/cellgram/cellgram/internal/asn1.LawS0955BExact", spec := "lawS0955BExact", inPlace := ["math/bits.Sub64"], apart := false }
def LawS0955BExactSaid : Prop := lawS0955BExactRow.holds Yba.pinned (OpenSpec.ofChange lawS0955BExactSpec)

/-- ITS FALSE NEIGHBOUR: 'it returns false'. Refute it at one input. -/
def lawS0955BExactWrong : ChangeSpec := { name := "lawS0955BExact", fn := fun _ => fun
  | [d1, d2, d3, d4] => { results := [.lit (.bool false)], args := [d1, d2, d3, d4] }
  | _ => none }
def LawS0955BExactWrongFalsely : Prop := lawS0955BExactRow.holds Yba.pinned (OpenSpec.ofChange lawS0955BExactWrong)

/-- 'asn1.LawS0955BPlusBack': WHATEVER THE INPUT: true; the input reads as it did. -/
def lawS0955BPlusBackSpec : ChangeSpec := { name := "lawS0955BPlusBack", fn := fun _ => fun
  | [d1, d2, d3, d4] => { results := [.lit (.bool true)], args := [d1, d2, d3, d4] }
  | _ => none }
def lawS0955BPlusBackRow : OpenClaim := { program := "ybulkstg", sum := "7bff2c2f2089f4e85ee6f40acf6a276ffac2a0c7b442efcd5579f502694964ff", func := "example.com/cellgram/cellgram/internal/asn1.LawS0955BPlusBack", spec := "lawS0955BPlusBack", apart := false }
def LawS0955BPlusBackSaid : Prop := lawS0955BPlusBackRow.holds Yba.pinned (OpenSpec.ofChange lawS0955BPlusBackSpec)

/-- ITS FALSE NEIGHBOUR: 'it returns false'. Refute it at one input. -/
def lawS0955BPlusBackWrong : ChangeSpec := { name := "lawS0955BPlusBack", fn := fun _ => fun
  | [d1, d2, d3, d4] => { results := [.lit (.bool false)], args := [d1, d2, d3, d4] }
  | _ => none }
def LawS0955BPlusBackWrongFalsely : Prop := lawS0955BPlusBackRow.holds Yba.pinned (OpenSpec.ofChange lawS0955BPlusBackWrong)

end Rows
end Go.Proofs.Ybulkstg
