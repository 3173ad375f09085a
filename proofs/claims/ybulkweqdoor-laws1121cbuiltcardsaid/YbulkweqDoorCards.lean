/-
  DERIVED. GIVEN WITH THE SEED: THE CARDS: each row of YbulkweqDoorRows.lean that lists a variable, with what it lists TIED to the program's text (the seventh form; the later family's looks); each row that meets fmt, with fmt's text TOLD by the authors' own Lean function (tested against real Go, not proved from fmt's source: count such statements apart). THE CARD IS WHAT COUNTS. Prove the row's statement (the work); the ties are given (YbulkweqDoorTie.lean); close each card by the builder's one call (the guide's Derived/Test/ToyasCard.lean, 'card_holds'). Laid BY PROGRAM, IN A SANDBOX (cutbox-door.mjs). By AI agents, Wed Nov 11 2026. No macro, syntax, notation, axiom, sorry.
-/
import Derived.Test.YbulkweqDoorRows
import GoSem.ClaimSeven
namespace Go.Proofs.YbulkweqDoor
namespace Rows

/-- THE TIED CARD OF 'capture.LawS1121CBuilt'. -/
def lawS1121CBuiltCard : Claim7 := { stood := { row := lawS1121CBuiltRow, standIns := [], harness := (true, "4b21909758877241de054adab250e35a09956ab241427986f88c5b99b4a2cfba"), looks := false }, kinds := [], alts := [], laidByText := true, laidKinds := [.called, .called], laidTests := true, laidLooks := .later }
def LawS1121CBuiltCardSaid : Prop := Claim7.holds Ybad.pinned (.plain (OpenSpec.ofChange lawS1121CBuiltSpec)) lawS1121CBuiltCard

/-- THE TIED CARD OF 'capture.LawS1121CRaw'. -/
def lawS1121CRawCard : Claim7 := { stood := { row := lawS1121CRawRow, standIns := [], harness := (true, "4b21909758877241de054adab250e35a09956ab241427986f88c5b99b4a2cfba"), looks := false }, kinds := [], alts := [], laidByText := true, laidKinds := [.called, .called], laidTests := true, laidLooks := .later }
def LawS1121CRawCardSaid : Prop := Claim7.holds Ybad.pinned (.plain (OpenSpec.ofChange lawS1121CRawSpec)) lawS1121CRawCard
end Rows
end Go.Proofs.YbulkweqDoor
