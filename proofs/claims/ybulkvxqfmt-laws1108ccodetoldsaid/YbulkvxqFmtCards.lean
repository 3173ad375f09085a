/-
  DERIVED. GIVEN WITH THE SEED: THE CARDS: each row of YbulkvxqFmtRows.lean that lists a variable, with what it lists TIED to the program's text (the seventh form; the later family's looks); each row that meets fmt, with fmt's text TOLD by the authors' own Lean function (tested against real Go, not proved from fmt's source: count such statements apart). THE CARD IS WHAT COUNTS. Prove the row's statement (the work); the ties are given (YbulkvxqFmtTie.lean); close each card by the builder's one call (the guide's Derived/Test/ToyasCard.lean, 'card_holds'). Laid BY PROGRAM, IN A SANDBOX (cutbox-door.mjs). By AI agents, Wed Nov 11 2026. No macro, syntax, notation, axiom, sorry.
-/
import Derived.Test.YbulkvxqFmtRows
import GoSem.ClaimSeven
namespace Go.Proofs.YbulkvxqFmt
namespace Rows

/-- THE TOLD CARD OF 'secretagi.LawS1108CRange'. -/
def lawS1108CRangeCard : Claim7 := { stood := { row := lawS1108CRangeRow, standIns := [], harness := (true, "f86db44425c329b153cd4b20c90a716afa7ad66ce24e96e9200aa08fb9455a8f"), looks := true }, told := true, goes := false }
def LawS1108CRangeToldSaid : Prop := Claim7.holds Ybaf.pinned (.plain (OpenSpec.ofChange lawS1108CRangeSpec)) lawS1108CRangeCard
/-- ITS FALSE NEIGHBOUR. Refute it at one input. -/
def LawS1108CRangeToldWrongFalsely : Prop := Claim7.holds Ybaf.pinned (.plain (OpenSpec.ofChange lawS1108CRangeWrong)) lawS1108CRangeCard

/-- THE TOLD CARD OF 'secretagi.LawS1108CCode'. -/
def lawS1108CCodeCard : Claim7 := { stood := { row := lawS1108CCodeRow, standIns := [], harness := (true, "f86db44425c329b153cd4b20c90a716afa7ad66ce24e96e9200aa08fb9455a8f"), looks := true }, told := true, goes := false }
def LawS1108CCodeToldSaid : Prop := Claim7.holds Ybaf.pinned (.plain (OpenSpec.ofChange lawS1108CCodeSpec)) lawS1108CCodeCard
/-- ITS FALSE NEIGHBOUR. Refute it at one input. -/
def LawS1108CCodeToldWrongFalsely : Prop := Claim7.holds Ybaf.pinned (.plain (OpenSpec.ofChange lawS1108CCodeWrong)) lawS1108CCodeCard
end Rows
end Go.Proofs.YbulkvxqFmt
