/-
  No cell of these rows narrows 'for every input' (looked for: loops, veiled, ifaces, maps, wideKeys, modest, calm, conditions, laid).
  DERIVED. THE GIVEN ROWS OF THIS SEAT. 1 by the template 'for every input the law returns true; each argument reads behind the call as it read before'; 0 by the template 'total and deterministic' (their statements: YbulkvxqTotals.lean).
  GIVEN WITH THE SEED: the statements are not yours to turn. If you find one false, say at which input.
  Laid BY PROGRAM, IN A SANDBOX (cutbox-rows.mjs): the forced cells as the released guide's own fill.sh prints them over the translation e217023685b9d9fc… (all of the seat's roots in one cut). By AI agents, Wed Nov 11 2026. No macro, syntax, notation, axiom, sorry.
-/
import Derived.Test.YbulkvxqChecked
import GoSem.Claim
import GoSem.ClaimJoined
import GoSem.ClaimMapViews
import Derived.JoinedTies
import Derived.KernelRfl
namespace Go.Proofs.Ybulkvxq
/- THE CELL 'sum', in the pinned program and in every row, IS THE sha256 OF THE DUMP (.gsa) THAT YbulkvxqProg.lean LOADS. Nothing in Lean hashes anything: it is a label: what it is worth is what the hold of that sum in a sandbox is worth. -/
noncomputable def Yba.pinned : Pinned := { name := "ybulkvxq", sum := "e217023685b9d9fc2ea39a6b02e194e4658d394bba580a79ccce0ea56809ff79", checked := Yba.checked }
namespace Rows
def none {H : Type} : Left H := { results := [], args := [] }

/-- 'asg.LawS1108ABuild': WHATEVER THE INPUT: true; the input reads as it did. -/
def lawS1108ABuildSpec : ChangeSpec := { name := "lawS1108ABuild", fn := fun _ => fun
  | [d1, d2, d3, d4, d5, d6, d7] => { results := [.lit (.bool true)], args := [d1, d2, d3, d4, d5, d6, d7] }
  | _ => none }
def lawS1108ABuildRow : OpenClaim := { program := "ybulkvxq", sum := "e217023685b9d9fc2ea39a6b02e194e4658d394bba580a79ccce0ea56809ff79", func := "example.com/tableturn/tableturn/asg.LawS1108ABuild", spec := "lawS1108ABuild", unfollowed := true, recurses := true, apart := false }
def LawS1108ABuildSaid : Prop := lawS1108ABuildRow.holds Yba.pinned (OpenSpec.ofChange lawS1108ABuildSpec)

/-- ITS FALSE NEIGHBOUR: 'it returns false'. Refute it at one input. -/
def lawS1108ABuildWrong : ChangeSpec := { name := "lawS1108ABuild", fn := fun _ => fun
  | [d1, d2, d3, d4, d5, d6, d7] => { results := [.lit (.bool false)], args := [d1, d2, d3, d4, d5, d6, d7] }
  | _ => none }
def LawS1108ABuildWrongFalsely : Prop := lawS1108ABuildRow.holds Yba.pinned (OpenSpec.ofChange lawS1108ABuildWrong)

end Rows
end Go.Proofs.Ybulkvxq
