/-
  NARROWER THAN 'FOR EVERY INPUT', by the rows' own cells (each row's printed sentence says how): LawS3269CPlace: laid · LawS3269CAligned: laid.
  DERIVED. THE GIVEN ROWS OF THIS SEAT. 2 by the template 'for every input the law returns true; each argument reads behind the call as it read before'; 0 by the template 'total and deterministic' (their statements: YbulkborgDoorTotals.lean).
  GIVEN WITH THE SEED: the statements are not yours to turn. If you find one false, say at which input.
  Laid BY PROGRAM, IN A SANDBOX (cutbox-rows.mjs): the forced cells as the released guide's own fill.sh prints them over the translation 1b44d9ed62206c58… (all of the seat's roots in one cut). By AI agents, Wed Nov 11 2026. No macro, syntax, notation, axiom, sorry.
-/
import Derived.Test.YbulkborgDoorChecked
import GoSem.Claim
import GoSem.ClaimJoined
import GoSem.ClaimMapViews
import Derived.JoinedTies
import Derived.KernelRfl
namespace Go.Proofs.YbulkborgDoor
/- THE CELL 'sum', in the pinned program and in every row, IS THE sha256 OF THE DUMP (.gsa) THAT YbulkborgDoorProg.lean LOADS. Nothing in Lean hashes anything: it is a label: what it is worth is what the hold of that sum in a sandbox is worth. -/
noncomputable def Ybad.pinned : Pinned := { name := "ybulkborgdoor", sum := "1b44d9ed62206c58d0fbb775112067f7eb57dbd25308a3765612419ce7d5c170", checked := Ybad.checked }
namespace Rows
def none {H : Type} : Left H := { results := [], args := [] }

/- WHAT THE LISTED PACKAGE-LEVEL VARIABLES READ AS WHEN THE CALL BEGINS. Each datum BY PROGRAM (the guide's laid-datum.mjs) off the statement by which the dump's own 'gosem.cut.vars' lays the variable. In a bare row this is a premise. The card (YbulkborgDoorCards.lean) ties it to the program's text. -/
def laid_net_netip_z4 {H : Type} : DataW H := .agg [.ptr (.agg [.lit (.bool false), .lit (.string [])])]
def laid_net_netip_z6noz {H : Type} : DataW H := .agg [.ptr (.agg [.lit (.bool true), .lit (.string [])])]

/-- 'ringherald.LawS3269CPlace': WHATEVER THE INPUT: true; the input reads as it did. -/
def lawS3269CPlaceSpec : ChangeSpec := { name := "lawS3269CPlace", fn := fun _ => fun
  | [d1, d2] => { results := [.lit (.bool true)], args := [d1, d2] }
  | _ => none }
def lawS3269CPlaceRow : OpenClaim := { program := "ybulkborgdoor", sum := "1b44d9ed62206c58d0fbb775112067f7eb57dbd25308a3765612419ce7d5c170", func := "example.com/ringherald/ringherald.LawS3269CPlace", spec := "lawS3269CPlace", named := ["net/netip.z6noz", "net/netip.z4"], apart := false, laid := [("net/netip.z4", laid_net_netip_z4), ("net/netip.z6noz", laid_net_netip_z6noz)] }
def LawS3269CPlaceSaid : Prop := lawS3269CPlaceRow.holds Ybad.pinned (OpenSpec.ofChange lawS3269CPlaceSpec)

/-- ITS FALSE NEIGHBOUR: 'it returns false'. Refute it at one input. -/
def lawS3269CPlaceWrong : ChangeSpec := { name := "lawS3269CPlace", fn := fun _ => fun
  | [d1, d2] => { results := [.lit (.bool false)], args := [d1, d2] }
  | _ => none }
def LawS3269CPlaceWrongFalsely : Prop := lawS3269CPlaceRow.holds Ybad.pinned (OpenSpec.ofChange lawS3269CPlaceWrong)

/-- 'ringherald.LawS3269CAligned': WHATEVER THE INPUT: true; the input reads as it did. -/
def lawS3269CAlignedSpec : ChangeSpec := { name := "lawS3269CAligned", fn := fun _ => fun
  | [d1, d2] => { results := [.lit (.bool true)], args := [d1, d2] }
  | _ => none }
def lawS3269CAlignedRow : OpenClaim := { program := "ybulkborgdoor", sum := "1b44d9ed62206c58d0fbb775112067f7eb57dbd25308a3765612419ce7d5c170", func := "example.com/ringherald/ringherald.LawS3269CAligned", spec := "lawS3269CAligned", named := ["net/netip.z6noz", "net/netip.z4"], apart := false, laid := [("net/netip.z4", laid_net_netip_z4), ("net/netip.z6noz", laid_net_netip_z6noz)] }
def LawS3269CAlignedSaid : Prop := lawS3269CAlignedRow.holds Ybad.pinned (OpenSpec.ofChange lawS3269CAlignedSpec)

/-- ITS FALSE NEIGHBOUR: 'it returns false'. Refute it at one input. -/
def lawS3269CAlignedWrong : ChangeSpec := { name := "lawS3269CAligned", fn := fun _ => fun
  | [d1, d2] => { results := [.lit (.bool false)], args := [d1, d2] }
  | _ => none }
def LawS3269CAlignedWrongFalsely : Prop := lawS3269CAlignedRow.holds Ybad.pinned (OpenSpec.ofChange lawS3269CAlignedWrong)

end Rows
end Go.Proofs.YbulkborgDoor
