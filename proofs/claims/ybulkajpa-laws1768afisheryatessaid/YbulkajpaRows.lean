/-
  No cell of these rows narrows 'for every input' (looked for: loops, veiled, ifaces, maps, wideKeys, modest, calm, conditions, laid).
  DERIVED. THE GIVEN ROWS OF THIS SEAT. 5 by the template 'for every input the law returns true; each argument reads behind the call as it read before'; 0 by the template 'total and deterministic' (their statements: YbulkajpaTotals.lean).
  GIVEN WITH THE SEED: the statements are not yours to turn. If you find one false, say at which input.
  Laid BY PROGRAM, IN A SANDBOX (cutbox-rows.mjs): the forced cells as the released guide's own fill.sh prints them over the translation 4b8bdaa2e2f175ff… (all of the seat's roots in one cut). By AI agents, Wed Nov 11 2026. No macro, syntax, notation, axiom, sorry.
-/
import Derived.Test.YbulkajpaChecked
import GoSem.Claim
import GoSem.ClaimJoined
import GoSem.ClaimMapViews
import Derived.JoinedTies
import Derived.KernelRfl
namespace Go.Proofs.Ybulkajpa
/- THE CELL 'sum', in the pinned program and in every row, IS THE sha256 OF THE DUMP (.gsa) THAT YbulkajpaProg.lean LOADS. Nothing in Lean hashes anything: it is a label: what it is worth is what the hold of that sum in a sandbox is worth. -/
noncomputable def Yba.pinned : Pinned := { name := "ybulkajpa", sum := "4b8bdaa2e2f175ff18b822d1497617b3f3d2fd13864e1e1ea40c759ef3f252e0", checked := Yba.checked }
namespace Rows
def none {H : Type} : Left H := { results := [], args := [] }

/-- 'auction.LawS1768APermutation': WHATEVER THE INPUT: true; the input reads as it did. -/
def lawS1768APermutationSpec : ChangeSpec := { name := "lawS1768APermutation", fn := fun _ => fun
  | [d1, d2] => { results := [.lit (.bool true)], args := [d1, d2] }
  | _ => none }
def lawS1768APermutationRow : OpenClaim := { program := "ybulkajpa", sum := "4b8bdaa2e2f175ff18b822d1497617b3f3d2fd13864e1e1ea40c759ef3f252e0", func := "example.com/stopout/stopout/auction.LawS1768APermutation", spec := "lawS1768APermutation", inPlace := ["internal/chacha8rand.block"], recurses := true, named := ["encoding/binary.LittleEndian"], apart := false }
def LawS1768APermutationSaid : Prop := lawS1768APermutationRow.holds Yba.pinned (OpenSpec.ofChange lawS1768APermutationSpec)

/-- ITS FALSE NEIGHBOUR: 'it returns false'. Refute it at one input. -/
def lawS1768APermutationWrong : ChangeSpec := { name := "lawS1768APermutation", fn := fun _ => fun
  | [d1, d2] => { results := [.lit (.bool false)], args := [d1, d2] }
  | _ => none }
def LawS1768APermutationWrongFalsely : Prop := lawS1768APermutationRow.holds Yba.pinned (OpenSpec.ofChange lawS1768APermutationWrong)

/-- 'auction.LawS1768AFisherYates': WHATEVER THE INPUT: true; the input reads as it did. -/
def lawS1768AFisherYatesSpec : ChangeSpec := { name := "lawS1768AFisherYates", fn := fun _ => fun
  | [d1, d2] => { results := [.lit (.bool true)], args := [d1, d2] }
  | _ => none }
def lawS1768AFisherYatesRow : OpenClaim := { program := "ybulkajpa", sum := "4b8bdaa2e2f175ff18b822d1497617b3f3d2fd13864e1e1ea40c759ef3f252e0", func := "example.com/stopout/stopout/auction.LawS1768AFisherYates", spec := "lawS1768AFisherYates", inPlace := ["internal/chacha8rand.block"], named := ["encoding/binary.LittleEndian"], apart := false }
def LawS1768AFisherYatesSaid : Prop := lawS1768AFisherYatesRow.holds Yba.pinned (OpenSpec.ofChange lawS1768AFisherYatesSpec)

/-- ITS FALSE NEIGHBOUR: 'it returns false'. Refute it at one input. -/
def lawS1768AFisherYatesWrong : ChangeSpec := { name := "lawS1768AFisherYates", fn := fun _ => fun
  | [d1, d2] => { results := [.lit (.bool false)], args := [d1, d2] }
  | _ => none }
def LawS1768AFisherYatesWrongFalsely : Prop := lawS1768AFisherYatesRow.holds Yba.pinned (OpenSpec.ofChange lawS1768AFisherYatesWrong)

/-- 'auction.LawS1768AIndexOnly': WHATEVER THE INPUT: true; the input reads as it did. -/
def lawS1768AIndexOnlySpec : ChangeSpec := { name := "lawS1768AIndexOnly", fn := fun _ => fun
  | [d1, d2] => { results := [.lit (.bool true)], args := [d1, d2] }
  | _ => none }
def lawS1768AIndexOnlyRow : OpenClaim := { program := "ybulkajpa", sum := "4b8bdaa2e2f175ff18b822d1497617b3f3d2fd13864e1e1ea40c759ef3f252e0", func := "example.com/stopout/stopout/auction.LawS1768AIndexOnly", spec := "lawS1768AIndexOnly", inPlace := ["internal/chacha8rand.block"], named := ["encoding/binary.LittleEndian"], apart := false }
def LawS1768AIndexOnlySaid : Prop := lawS1768AIndexOnlyRow.holds Yba.pinned (OpenSpec.ofChange lawS1768AIndexOnlySpec)

/-- ITS FALSE NEIGHBOUR: 'it returns false'. Refute it at one input. -/
def lawS1768AIndexOnlyWrong : ChangeSpec := { name := "lawS1768AIndexOnly", fn := fun _ => fun
  | [d1, d2] => { results := [.lit (.bool false)], args := [d1, d2] }
  | _ => none }
def LawS1768AIndexOnlyWrongFalsely : Prop := lawS1768AIndexOnlyRow.holds Yba.pinned (OpenSpec.ofChange lawS1768AIndexOnlyWrong)

/-- 'auction.LawS1768CAgrees': WHATEVER THE INPUT: true; the input reads as it did. -/
def lawS1768CAgreesSpec : ChangeSpec := { name := "lawS1768CAgrees", fn := fun _ => fun
  | [d1, d2] => { results := [.lit (.bool true)], args := [d1, d2] }
  | _ => none }
def lawS1768CAgreesRow : OpenClaim := { program := "ybulkajpa", sum := "4b8bdaa2e2f175ff18b822d1497617b3f3d2fd13864e1e1ea40c759ef3f252e0", func := "example.com/stopout/stopout/auction.LawS1768CAgrees", spec := "lawS1768CAgrees", apart := false }
def LawS1768CAgreesSaid : Prop := lawS1768CAgreesRow.holds Yba.pinned (OpenSpec.ofChange lawS1768CAgreesSpec)

/-- ITS FALSE NEIGHBOUR: 'it returns false'. Refute it at one input. -/
def lawS1768CAgreesWrong : ChangeSpec := { name := "lawS1768CAgrees", fn := fun _ => fun
  | [d1, d2] => { results := [.lit (.bool false)], args := [d1, d2] }
  | _ => none }
def LawS1768CAgreesWrongFalsely : Prop := lawS1768CAgreesRow.holds Yba.pinned (OpenSpec.ofChange lawS1768CAgreesWrong)

/-- 'auction.LawS1768CEdit': WHATEVER THE INPUT: true; the input reads as it did. -/
def lawS1768CEditSpec : ChangeSpec := { name := "lawS1768CEdit", fn := fun _ => fun
  | [d1, d2, d3] => { results := [.lit (.bool true)], args := [d1, d2, d3] }
  | _ => none }
def lawS1768CEditRow : OpenClaim := { program := "ybulkajpa", sum := "4b8bdaa2e2f175ff18b822d1497617b3f3d2fd13864e1e1ea40c759ef3f252e0", func := "example.com/stopout/stopout/auction.LawS1768CEdit", spec := "lawS1768CEdit", apart := false }
def LawS1768CEditSaid : Prop := lawS1768CEditRow.holds Yba.pinned (OpenSpec.ofChange lawS1768CEditSpec)

/-- ITS FALSE NEIGHBOUR: 'it returns false'. Refute it at one input. -/
def lawS1768CEditWrong : ChangeSpec := { name := "lawS1768CEdit", fn := fun _ => fun
  | [d1, d2, d3] => { results := [.lit (.bool false)], args := [d1, d2, d3] }
  | _ => none }
def LawS1768CEditWrongFalsely : Prop := lawS1768CEditRow.holds Yba.pinned (OpenSpec.ofChange lawS1768CEditWrong)

end Rows
end Go.Proofs.Ybulkajpa
