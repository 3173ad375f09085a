/-
  No cell of these rows narrows 'for every input' (looked for: loops, veiled, ifaces, maps, wideKeys, modest, calm, conditions, laid).
  DERIVED. THE GIVEN ROWS OF THIS SEAT. 2 by the template 'for every input the law returns true; each argument reads behind the call as it read before'; 0 by the template 'total and deterministic' (their statements: YbulkvxqFmtTotals.lean).
  GIVEN WITH THE SEED: the statements are not yours to turn. If you find one false, say at which input.
  Laid BY PROGRAM, IN A SANDBOX (cutbox-rows.mjs): the forced cells as the released guide's own fill.sh prints them over the translation a8c2c27189f2154b… (all of the seat's roots in one cut). By AI agents, Wed Nov 11 2026. No macro, syntax, notation, axiom, sorry.
-/
import Derived.Test.YbulkvxqFmtChecked
import GoSem.Claim
import GoSem.ClaimJoined
import GoSem.ClaimMapViews
import Derived.JoinedTies
import Derived.KernelRfl
namespace Go.Proofs.YbulkvxqFmt
/- THE CELL 'sum', in the pinned program and in every row, IS THE sha256 OF THE DUMP (.gsa) THAT YbulkvxqFmtProg.lean LOADS. Nothing in Lean hashes anything: it is a label: what it is worth is what the hold of that sum in a sandbox is worth. -/
noncomputable def Ybaf.pinned : Pinned := { name := "ybulkvxqfmt", sum := "a8c2c27189f2154b2dbf18a3da3b67eee4ea488d46611772b86946f094087a5f", checked := Ybaf.checked }
namespace Rows
def none {H : Type} : Left H := { results := [], args := [] }

/-- 'secretagi.LawS1108CRange': WHATEVER THE INPUT: true; the input reads as it did. -/
def lawS1108CRangeSpec : ChangeSpec := { name := "lawS1108CRange", fn := fun _ => fun
  | [d] => { results := [.lit (.bool true)], args := [d] }
  | _ => none }
def lawS1108CRangeRow : OpenClaim := { program := "ybulkvxqfmt", sum := "a8c2c27189f2154b2dbf18a3da3b67eee4ea488d46611772b86946f094087a5f", func := "example.com/tableturn/tableturn/secretagi.LawS1108CRange", spec := "lawS1108CRange", stops := ["fmt.Sprintf, its operands' methods called"], inPlace := ["fmt.Sprintf"], unfollowed := true, recurses := true, apart := false }
/-- NO THEOREM (fmt's text is open here; it may be false): for the released tool's asking of the row's closed facts alone. THE STATEMENT IS 'LawS1108CRangeToldSaid' (YbulkvxqFmtCards.lean). -/
def LawS1108CRangeFormAsk : Prop := lawS1108CRangeRow.holds Ybaf.pinned (OpenSpec.ofChange lawS1108CRangeSpec)

/-- ITS FALSE NEIGHBOUR: 'it returns false'. Refute it at one input. -/
def lawS1108CRangeWrong : ChangeSpec := { name := "lawS1108CRange", fn := fun _ => fun
  | [d] => { results := [.lit (.bool false)], args := [d] }
  | _ => none }
def LawS1108CRangeWrongFormAsk : Prop := lawS1108CRangeRow.holds Ybaf.pinned (OpenSpec.ofChange lawS1108CRangeWrong)

/-- 'secretagi.LawS1108CCode': WHATEVER THE INPUT: true; the input reads as it did. -/
def lawS1108CCodeSpec : ChangeSpec := { name := "lawS1108CCode", fn := fun _ => fun
  | [d] => { results := [.lit (.bool true)], args := [d] }
  | _ => none }
def lawS1108CCodeRow : OpenClaim := { program := "ybulkvxqfmt", sum := "a8c2c27189f2154b2dbf18a3da3b67eee4ea488d46611772b86946f094087a5f", func := "example.com/tableturn/tableturn/secretagi.LawS1108CCode", spec := "lawS1108CCode", stops := ["fmt.Sprintf, its operands' methods called"], inPlace := ["fmt.Sprintf"], unfollowed := true, recurses := true, apart := false }
/-- NO THEOREM (fmt's text is open here; it may be false): for the released tool's asking of the row's closed facts alone. THE STATEMENT IS 'LawS1108CCodeToldSaid' (YbulkvxqFmtCards.lean). -/
def LawS1108CCodeFormAsk : Prop := lawS1108CCodeRow.holds Ybaf.pinned (OpenSpec.ofChange lawS1108CCodeSpec)

/-- ITS FALSE NEIGHBOUR: 'it returns false'. Refute it at one input. -/
def lawS1108CCodeWrong : ChangeSpec := { name := "lawS1108CCode", fn := fun _ => fun
  | [d] => { results := [.lit (.bool false)], args := [d] }
  | _ => none }
def LawS1108CCodeWrongFormAsk : Prop := lawS1108CCodeRow.holds Ybaf.pinned (OpenSpec.ofChange lawS1108CCodeWrong)

end Rows
end Go.Proofs.YbulkvxqFmt
