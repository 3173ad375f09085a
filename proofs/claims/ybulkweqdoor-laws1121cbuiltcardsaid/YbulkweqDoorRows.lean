/-
  NARROWER THAN 'FOR EVERY INPUT', by the rows' own cells (each row's printed sentence says how): LawS1121CBuilt: laid · LawS1121CRaw: laid.
  DERIVED. THE GIVEN ROWS OF THIS SEAT. 2 by the template 'for every input the law returns true; each argument reads behind the call as it read before'; 0 by the template 'total and deterministic' (their statements: YbulkweqDoorTotals.lean).
  GIVEN WITH THE SEED: the statements are not yours to turn. If you find one false, say at which input.
  Laid BY PROGRAM, IN A SANDBOX (cutbox-rows.mjs): the forced cells as the released guide's own fill.sh prints them over the translation 481249c98cfe5714… (all of the seat's roots in one cut). By AI agents, Wed Nov 11 2026. No macro, syntax, notation, axiom, sorry.
-/
import Derived.Test.YbulkweqDoorChecked
import GoSem.Claim
import GoSem.ClaimJoined
import GoSem.ClaimMapViews
import Derived.JoinedTies
import Derived.KernelRfl
namespace Go.Proofs.YbulkweqDoor
/- THE CELL 'sum', in the pinned program and in every row, IS THE sha256 OF THE DUMP (.gsa) THAT YbulkweqDoorProg.lean LOADS. Nothing in Lean hashes anything: it is a label: what it is worth is what the hold of that sum in a sandbox is worth. -/
noncomputable def Ybad.pinned : Pinned := { name := "ybulkweqdoor", sum := "481249c98cfe5714b560298c9cd41731b26a8388d0c5735b2184afe7361cd4b0", checked := Ybad.checked }
namespace Rows
def none {H : Type} : Left H := { results := [], args := [] }

/- WHAT THE LISTED PACKAGE-LEVEL VARIABLES READ AS WHEN THE CALL BEGINS. Each datum BY PROGRAM (the guide's laid-datum.mjs) off the statement by which the dump's own 'gosem.cut.vars' lays the variable. In a bare row this is a premise. The card (YbulkweqDoorCards.lean) ties it to the program's text. -/
def laid_net_netip_z4 {H : Type} : DataW H := .agg [.ptr (.agg [.lit (.bool false), .lit (.string [])])]
def laid_net_netip_z6noz {H : Type} : DataW H := .agg [.ptr (.agg [.lit (.bool true), .lit (.string [])])]

/-- 'capture.LawS1121CBuilt': WHATEVER THE INPUT: true; the input reads as it did. -/
def lawS1121CBuiltSpec : ChangeSpec := { name := "lawS1121CBuilt", fn := fun _ => fun
  | [d] => { results := [.lit (.bool true)], args := [d] }
  | _ => none }
def lawS1121CBuiltRow : OpenClaim := { program := "ybulkweqdoor", sum := "481249c98cfe5714b560298c9cd41731b26a8388d0c5735b2184afe7361cd4b0", func := "example.com/handover-forge/handover-forge/internal/capture.LawS1121CBuilt", spec := "lawS1121CBuilt", named := ["encoding/binary.BigEndian", "net/netip.z4", "net/netip.z6noz"], apart := false, laid := [("net/netip.z4", laid_net_netip_z4), ("net/netip.z6noz", laid_net_netip_z6noz)] }
def LawS1121CBuiltSaid : Prop := lawS1121CBuiltRow.holds Ybad.pinned (OpenSpec.ofChange lawS1121CBuiltSpec)

/-- ITS FALSE NEIGHBOUR: 'it returns false'. Refute it at one input. -/
def lawS1121CBuiltWrong : ChangeSpec := { name := "lawS1121CBuilt", fn := fun _ => fun
  | [d] => { results := [.lit (.bool false)], args := [d] }
  | _ => none }
def LawS1121CBuiltWrongFalsely : Prop := lawS1121CBuiltRow.holds Ybad.pinned (OpenSpec.ofChange lawS1121CBuiltWrong)

/-- 'capture.LawS1121CRaw': WHATEVER THE INPUT: true; the input reads as it did. -/
def lawS1121CRawSpec : ChangeSpec := { name := "lawS1121CRaw", fn := fun _ => fun
  | [d] => { results := [.lit (.bool true)], args := [d] }
  | _ => none }
def lawS1121CRawRow : OpenClaim := { program := "ybulkweqdoor", sum := "481249c98cfe5714b560298c9cd41731b26a8388d0c5735b2184afe7361cd4b0", func := "example.com/handover-forge/handover-forge/internal/capture.LawS1121CRaw", spec := "lawS1121CRaw", named := ["encoding/binary.BigEndian", "net/netip.z4", "net/netip.z6noz"], apart := false, laid := [("net/netip.z4", laid_net_netip_z4), ("net/netip.z6noz", laid_net_netip_z6noz)] }
def LawS1121CRawSaid : Prop := lawS1121CRawRow.holds Ybad.pinned (OpenSpec.ofChange lawS1121CRawSpec)

/-- ITS FALSE NEIGHBOUR: 'it returns false'. Refute it at one input. -/
def lawS1121CRawWrong : ChangeSpec := { name := "lawS1121CRaw", fn := fun _ => fun
  | [d] => { results := [.lit (.bool false)], args := [d] }
  | _ => none }
def LawS1121CRawWrongFalsely : Prop := lawS1121CRawRow.holds Ybad.pinned (OpenSpec.ofChange lawS1121CRawWrong)

end Rows
end Go.Proofs.YbulkweqDoor
