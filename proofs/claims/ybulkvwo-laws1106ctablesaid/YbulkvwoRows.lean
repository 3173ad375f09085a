/-
  No cell of these rows narrows 'for every input' (looked for: loops, veiled, ifaces, maps, wideKeys, modest, calm, conditions, laid).
  DERIVED. THE GIVEN ROWS OF THIS SEAT. 4 by the template 'for every input the law returns true; each argument reads behind the call as it read before'; 0 by the template 'total and deterministic' (their statements: YbulkvwoTotals.lean).
  GIVEN WITH THE SEED: the statements are not yours to turn. If you find one false, say at which input.
  Laid BY PROGRAM, IN A SANDBOX (cutbox-rows.mjs): the forced cells as the released guide's own fill.sh prints them over the translation 8713e219b6e6501f… (all of the seat's roots in one cut). By AI agents, Wed Nov 11 2026. No macro, syntax, notation, axiom, sorry.
-/
import Derived.Test.YbulkvwoChecked
import GoSem.Claim
import GoSem.ClaimJoined
import GoSem.ClaimMapViews
import Derived.JoinedTies
import Derived.KernelRfl
namespace Go.Proofs.Ybulkvwo
/- THE CELL 'sum', in the pinned program and in every row, IS THE sha256 OF THE DUMP (.gsa) THAT YbulkvwoProg.lean LOADS. Nothing in Lean hashes anything: it is a label: what it is worth is what the hold of that sum in a sandbox is worth. -/
noncomputable def Yba.pinned : Pinned := { name := "ybulkvwo", sum := "8713e219b6e6501fd4e1f08984dbf7f7ff46ba31c17b4c4c0392e85a74e68027", checked := Yba.checked }
namespace Rows
def none {H : Type} : Left H := { results := [], args := [] }

/-- 'expr.LawS1106BSkipsSpaces': WHATEVER THE INPUT: true; the input reads as it did. -/
def lawS1106BSkipsSpacesSpec : ChangeSpec := { name := "lawS1106BSkipsSpaces", fn := fun _ => fun
  | [d1, d2] => { results := [.lit (.bool true)], args := [d1, d2] }
  | _ => none }
def lawS1106BSkipsSpacesRow : OpenClaim := { program := "ybulkvwo", sum := "8713e219b6e6501fd4e1f08984dbf7f7ff46ba31c17b4c4c0392e85a74e68027", func := "example.com/spanreckon/spanreckon/internal/expr.LawS1106BSkipsSpaces", spec := "lawS1106BSkipsSpaces", apart := false }
def LawS1106BSkipsSpacesSaid : Prop := lawS1106BSkipsSpacesRow.holds Yba.pinned (OpenSpec.ofChange lawS1106BSkipsSpacesSpec)

/-- ITS FALSE NEIGHBOUR: 'it returns false'. Refute it at one input. -/
def lawS1106BSkipsSpacesWrong : ChangeSpec := { name := "lawS1106BSkipsSpaces", fn := fun _ => fun
  | [d1, d2] => { results := [.lit (.bool false)], args := [d1, d2] }
  | _ => none }
def LawS1106BSkipsSpacesWrongFalsely : Prop := lawS1106BSkipsSpacesRow.holds Yba.pinned (OpenSpec.ofChange lawS1106BSkipsSpacesWrong)

/-- 'expr.LawS1106BRestIs': WHATEVER THE INPUT: true; the input reads as it did. -/
def lawS1106BRestIsSpec : ChangeSpec := { name := "lawS1106BRestIs", fn := fun _ => fun
  | [d1, d2, d3, d4] => { results := [.lit (.bool true)], args := [d1, d2, d3, d4] }
  | _ => none }
def lawS1106BRestIsRow : OpenClaim := { program := "ybulkvwo", sum := "8713e219b6e6501fd4e1f08984dbf7f7ff46ba31c17b4c4c0392e85a74e68027", func := "example.com/spanreckon/spanreckon/internal/expr.LawS1106BRestIs", spec := "lawS1106BRestIs", apart := false }
def LawS1106BRestIsSaid : Prop := lawS1106BRestIsRow.holds Yba.pinned (OpenSpec.ofChange lawS1106BRestIsSpec)

/-- ITS FALSE NEIGHBOUR: 'it returns false'. Refute it at one input. -/
def lawS1106BRestIsWrong : ChangeSpec := { name := "lawS1106BRestIs", fn := fun _ => fun
  | [d1, d2, d3, d4] => { results := [.lit (.bool false)], args := [d1, d2, d3, d4] }
  | _ => none }
def LawS1106BRestIsWrongFalsely : Prop := lawS1106BRestIsRow.holds Yba.pinned (OpenSpec.ofChange lawS1106BRestIsWrong)

/-- 'spanreckon.LawS1106CTable': WHATEVER THE INPUT: true; the input reads as it did. -/
def lawS1106CTableSpec : ChangeSpec := { name := "lawS1106CTable", fn := fun _ => fun
  | [d1, d2, d3] => { results := [.lit (.bool true)], args := [d1, d2, d3] }
  | _ => none }
def lawS1106CTableRow : OpenClaim := { program := "ybulkvwo", sum := "8713e219b6e6501fd4e1f08984dbf7f7ff46ba31c17b4c4c0392e85a74e68027", func := "example.com/spanreckon/spanreckon.LawS1106CTable", spec := "lawS1106CTable", apart := false }
def LawS1106CTableSaid : Prop := lawS1106CTableRow.holds Yba.pinned (OpenSpec.ofChange lawS1106CTableSpec)

/-- ITS FALSE NEIGHBOUR: 'it returns false'. Refute it at one input. -/
def lawS1106CTableWrong : ChangeSpec := { name := "lawS1106CTable", fn := fun _ => fun
  | [d1, d2, d3] => { results := [.lit (.bool false)], args := [d1, d2, d3] }
  | _ => none }
def LawS1106CTableWrongFalsely : Prop := lawS1106CTableRow.holds Yba.pinned (OpenSpec.ofChange lawS1106CTableWrong)

/-- 'spanreckon.LawS1106CRaw': WHATEVER THE INPUT: true; the input reads as it did. -/
def lawS1106CRawSpec : ChangeSpec := { name := "lawS1106CRaw", fn := fun _ => fun
  | [d1, d2, d3] => { results := [.lit (.bool true)], args := [d1, d2, d3] }
  | _ => none }
def lawS1106CRawRow : OpenClaim := { program := "ybulkvwo", sum := "8713e219b6e6501fd4e1f08984dbf7f7ff46ba31c17b4c4c0392e85a74e68027", func := "example.com/spanreckon/spanreckon.LawS1106CRaw", spec := "lawS1106CRaw", apart := false }
def LawS1106CRawSaid : Prop := lawS1106CRawRow.holds Yba.pinned (OpenSpec.ofChange lawS1106CRawSpec)

/-- ITS FALSE NEIGHBOUR: 'it returns false'. Refute it at one input. -/
def lawS1106CRawWrong : ChangeSpec := { name := "lawS1106CRaw", fn := fun _ => fun
  | [d1, d2, d3] => { results := [.lit (.bool false)], args := [d1, d2, d3] }
  | _ => none }
def LawS1106CRawWrongFalsely : Prop := lawS1106CRawRow.holds Yba.pinned (OpenSpec.ofChange lawS1106CRawWrong)

end Rows
end Go.Proofs.Ybulkvwo
