/-
  No cell of these rows narrows 'for every input' (looked for: loops, veiled, ifaces, maps, wideKeys, modest, calm, conditions, laid).
  DERIVED. THE GIVEN ROWS OF THIS SEAT. 5 by the template 'for every input the law returns true; each argument reads behind the call as it read before'; 0 by the template 'total and deterministic' (their statements: YbulkajomTotals.lean).
  GIVEN WITH THE SEED: the statements are not yours to turn. If you find one false, say at which input.
  Laid BY PROGRAM, IN A SANDBOX (cutbox-rows.mjs): the forced cells as the released guide's own fill.sh prints them over the translation 38b3fd658951410b… (all of the seat's roots in one cut). By AI agents, Wed Nov 11 2026. No macro, syntax, notation, axiom, sorry.
-/
import Derived.Test.YbulkajomChecked
import GoSem.Claim
import GoSem.ClaimJoined
import GoSem.ClaimMapViews
import Derived.JoinedTies
import Derived.KernelRfl
namespace Go.Proofs.Ybulkajom
/- THE CELL 'sum', in the pinned program and in every row, IS THE sha256 OF THE DUMP (.gsa) THAT YbulkajomProg.lean LOADS. Nothing in Lean hashes anything: it is a label: what it is worth is what the hold of that sum in a sandbox is worth. -/
noncomputable def Yba.pinned : Pinned := { name := "ybulkajom", sum := "38b3fd658951410b1dc71b811ef2de68ffb715f02449039f8aff4b144cde74d4", checked := Yba.checked }
namespace Rows
def none {H : Type} : Left H := { results := [], args := [] }

/-- 'protocol.LawS1767AExact': WHATEVER THE INPUT: true; the input reads as it did. -/
def lawS1767AExactSpec : ChangeSpec := { name := "lawS1767AExact", fn := fun _ => fun
  | [d1, d2, d3] => { results := [.lit (.bool true)], args := [d1, d2, d3] }
  | _ => none }
def lawS1767AExactRow : OpenClaim := { program := "ybulkajom", sum := "38b3fd658951410b1dc71b811ef2de68ffb715f02449039f8aff4b144cde74d4", func := "stubbornaccord.example/accord/internal/protocol.LawS1767AExact", spec := "lawS1767AExact", unfollowed := true, recurses := true, apart := false }
def LawS1767AExactSaid : Prop := lawS1767AExactRow.holds Yba.pinned (OpenSpec.ofChange lawS1767AExactSpec)

/-- ITS FALSE NEIGHBOUR: 'it returns false'. Refute it at one input. -/
def lawS1767AExactWrong : ChangeSpec := { name := "lawS1767AExact", fn := fun _ => fun
  | [d1, d2, d3] => { results := [.lit (.bool false)], args := [d1, d2, d3] }
  | _ => none }
def LawS1767AExactWrongFalsely : Prop := lawS1767AExactRow.holds Yba.pinned (OpenSpec.ofChange lawS1767AExactWrong)

/-- 'protocol.LawS1767AGone': WHATEVER THE INPUT: true; the input reads as it did. -/
def lawS1767AGoneSpec : ChangeSpec := { name := "lawS1767AGone", fn := fun _ => fun
  | [d1, d2, d3] => { results := [.lit (.bool true)], args := [d1, d2, d3] }
  | _ => none }
def lawS1767AGoneRow : OpenClaim := { program := "ybulkajom", sum := "38b3fd658951410b1dc71b811ef2de68ffb715f02449039f8aff4b144cde74d4", func := "stubbornaccord.example/accord/internal/protocol.LawS1767AGone", spec := "lawS1767AGone", unfollowed := true, recurses := true, apart := false }
def LawS1767AGoneSaid : Prop := lawS1767AGoneRow.holds Yba.pinned (OpenSpec.ofChange lawS1767AGoneSpec)

/-- ITS FALSE NEIGHBOUR: 'it returns false'. Refute it at one input. -/
def lawS1767AGoneWrong : ChangeSpec := { name := "lawS1767AGone", fn := fun _ => fun
  | [d1, d2, d3] => { results := [.lit (.bool false)], args := [d1, d2, d3] }
  | _ => none }
def LawS1767AGoneWrongFalsely : Prop := lawS1767AGoneRow.holds Yba.pinned (OpenSpec.ofChange lawS1767AGoneWrong)

/-- 'protocol.LawS1767BEnter': WHATEVER THE INPUT: true; the input reads as it did. -/
def lawS1767BEnterSpec : ChangeSpec := { name := "lawS1767BEnter", fn := fun _ => fun
  | [d1, d2, d3, d4, d5, d6, d7, d8] => { results := [.lit (.bool true)], args := [d1, d2, d3, d4, d5, d6, d7, d8] }
  | _ => none }
def lawS1767BEnterRow : OpenClaim := { program := "ybulkajom", sum := "38b3fd658951410b1dc71b811ef2de68ffb715f02449039f8aff4b144cde74d4", func := "stubbornaccord.example/accord/internal/protocol.LawS1767BEnter", spec := "lawS1767BEnter", unfollowed := true, recurses := true, apart := false }
def LawS1767BEnterSaid : Prop := lawS1767BEnterRow.holds Yba.pinned (OpenSpec.ofChange lawS1767BEnterSpec)

/-- ITS FALSE NEIGHBOUR: 'it returns false'. Refute it at one input. -/
def lawS1767BEnterWrong : ChangeSpec := { name := "lawS1767BEnter", fn := fun _ => fun
  | [d1, d2, d3, d4, d5, d6, d7, d8] => { results := [.lit (.bool false)], args := [d1, d2, d3, d4, d5, d6, d7, d8] }
  | _ => none }
def LawS1767BEnterWrongFalsely : Prop := lawS1767BEnterRow.holds Yba.pinned (OpenSpec.ofChange lawS1767BEnterWrong)

/-- 'protocol.LawS1767CBrute': WHATEVER THE INPUT: true; the input reads as it did. -/
def lawS1767CBruteSpec : ChangeSpec := { name := "lawS1767CBrute", fn := fun _ => fun
  | [d1, d2] => { results := [.lit (.bool true)], args := [d1, d2] }
  | _ => none }
def lawS1767CBruteRow : OpenClaim := { program := "ybulkajom", sum := "38b3fd658951410b1dc71b811ef2de68ffb715f02449039f8aff4b144cde74d4", func := "stubbornaccord.example/accord/internal/protocol.LawS1767CBrute", spec := "lawS1767CBrute", apart := false }
def LawS1767CBruteSaid : Prop := lawS1767CBruteRow.holds Yba.pinned (OpenSpec.ofChange lawS1767CBruteSpec)

/-- ITS FALSE NEIGHBOUR: 'it returns false'. Refute it at one input. -/
def lawS1767CBruteWrong : ChangeSpec := { name := "lawS1767CBrute", fn := fun _ => fun
  | [d1, d2] => { results := [.lit (.bool false)], args := [d1, d2] }
  | _ => none }
def LawS1767CBruteWrongFalsely : Prop := lawS1767CBruteRow.holds Yba.pinned (OpenSpec.ofChange lawS1767CBruteWrong)

/-- 'protocol.LawS1767CDivides': WHATEVER THE INPUT: true; the input reads as it did. -/
def lawS1767CDividesSpec : ChangeSpec := { name := "lawS1767CDivides", fn := fun _ => fun
  | [d1, d2] => { results := [.lit (.bool true)], args := [d1, d2] }
  | _ => none }
def lawS1767CDividesRow : OpenClaim := { program := "ybulkajom", sum := "38b3fd658951410b1dc71b811ef2de68ffb715f02449039f8aff4b144cde74d4", func := "stubbornaccord.example/accord/internal/protocol.LawS1767CDivides", spec := "lawS1767CDivides", apart := false }
def LawS1767CDividesSaid : Prop := lawS1767CDividesRow.holds Yba.pinned (OpenSpec.ofChange lawS1767CDividesSpec)

/-- ITS FALSE NEIGHBOUR: 'it returns false'. Refute it at one input. -/
def lawS1767CDividesWrong : ChangeSpec := { name := "lawS1767CDivides", fn := fun _ => fun
  | [d1, d2] => { results := [.lit (.bool false)], args := [d1, d2] }
  | _ => none }
def LawS1767CDividesWrongFalsely : Prop := lawS1767CDividesRow.holds Yba.pinned (OpenSpec.ofChange lawS1767CDividesWrong)

end Rows
end Go.Proofs.Ybulkajom
