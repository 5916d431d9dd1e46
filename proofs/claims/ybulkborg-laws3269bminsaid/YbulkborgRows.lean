/-
  No cell of these rows narrows 'for every input' (looked for: loops, veiled, ifaces, maps, wideKeys, modest, calm, conditions, laid).
  DERIVED. THE GIVEN ROWS OF THIS SEAT. 4 by the template 'for every input the law returns true; each argument reads behind the call as it read before'; 0 by the template 'total and deterministic' (their statements: YbulkborgTotals.lean).
  GIVEN WITH THE SEED: the statements are not yours to turn. If you find one false, say at which input.
  Laid BY PROGRAM, IN A SANDBOX (cutbox-rows.mjs): the forced cells as the released guide's own fill.sh prints them over the translation 1c85da8a973b9bab… (all of the seat's roots in one cut). By AI agents, Wed Nov 11 2026. No macro, syntax, notation, axiom, sorry.
-/
import Derived.Test.YbulkborgChecked
import GoSem.Claim
import GoSem.ClaimJoined
import GoSem.ClaimMapViews
import Derived.JoinedTies
import Derived.KernelRfl
namespace Go.Proofs.Ybulkborg
/- THE CELL 'sum', in the pinned program and in every row, IS THE sha256 OF THE DUMP (.gsa) THAT YbulkborgProg.lean LOADS. Nothing in Lean hashes anything: it is a label: what it is worth is what the hold of that sum in a sandbox is worth. -/
noncomputable def Yba.pinned : Pinned := { name := "ybulkborg", sum := "1c85da8a973b9babd2cead2cfec99bf122a465d1976a99e5e31c4de317171505", checked := Yba.checked }
namespace Rows
def none {H : Type} : Left H := { results := [], args := [] }

/-- 'ringherald.LawS3269AModel': WHATEVER THE INPUT: true; the input reads as it did. -/
def lawS3269AModelSpec : ChangeSpec := { name := "lawS3269AModel", fn := fun _ => fun
  | [d] => { results := [.lit (.bool true)], args := [d] }
  | _ => none }
def lawS3269AModelRow : OpenClaim := { program := "ybulkborg", sum := "1c85da8a973b9babd2cead2cfec99bf122a465d1976a99e5e31c4de317171505", func := "example.com/ringherald/ringherald.LawS3269AModel", spec := "lawS3269AModel", apart := false }
def LawS3269AModelSaid : Prop := lawS3269AModelRow.holds Yba.pinned (OpenSpec.ofChange lawS3269AModelSpec)

/-- ITS FALSE NEIGHBOUR: 'it returns false'. Refute it at one input. -/
def lawS3269AModelWrong : ChangeSpec := { name := "lawS3269AModel", fn := fun _ => fun
  | [d] => { results := [.lit (.bool false)], args := [d] }
  | _ => none }
def LawS3269AModelWrongFalsely : Prop := lawS3269AModelRow.holds Yba.pinned (OpenSpec.ofChange lawS3269AModelWrong)

/-- 'ringherald.LawS3269ARoundTrip': WHATEVER THE INPUT: true; the input reads as it did. -/
def lawS3269ARoundTripSpec : ChangeSpec := { name := "lawS3269ARoundTrip", fn := fun _ => fun
  | [d] => { results := [.lit (.bool true)], args := [d] }
  | _ => none }
def lawS3269ARoundTripRow : OpenClaim := { program := "ybulkborg", sum := "1c85da8a973b9babd2cead2cfec99bf122a465d1976a99e5e31c4de317171505", func := "example.com/ringherald/ringherald.LawS3269ARoundTrip", spec := "lawS3269ARoundTrip", apart := false }
def LawS3269ARoundTripSaid : Prop := lawS3269ARoundTripRow.holds Yba.pinned (OpenSpec.ofChange lawS3269ARoundTripSpec)

/-- ITS FALSE NEIGHBOUR: 'it returns false'. Refute it at one input. -/
def lawS3269ARoundTripWrong : ChangeSpec := { name := "lawS3269ARoundTrip", fn := fun _ => fun
  | [d] => { results := [.lit (.bool false)], args := [d] }
  | _ => none }
def LawS3269ARoundTripWrongFalsely : Prop := lawS3269ARoundTripRow.holds Yba.pinned (OpenSpec.ofChange lawS3269ARoundTripWrong)

/-- 'ringherald.LawS3269BPick': WHATEVER THE INPUT: true; the input reads as it did. -/
def lawS3269BPickSpec : ChangeSpec := { name := "lawS3269BPick", fn := fun _ => fun
  | [d1, d2] => { results := [.lit (.bool true)], args := [d1, d2] }
  | _ => none }
def lawS3269BPickRow : OpenClaim := { program := "ybulkborg", sum := "1c85da8a973b9babd2cead2cfec99bf122a465d1976a99e5e31c4de317171505", func := "example.com/ringherald/ringherald.LawS3269BPick", spec := "lawS3269BPick", apart := false }
def LawS3269BPickSaid : Prop := lawS3269BPickRow.holds Yba.pinned (OpenSpec.ofChange lawS3269BPickSpec)

/-- ITS FALSE NEIGHBOUR: 'it returns false'. Refute it at one input. -/
def lawS3269BPickWrong : ChangeSpec := { name := "lawS3269BPick", fn := fun _ => fun
  | [d1, d2] => { results := [.lit (.bool false)], args := [d1, d2] }
  | _ => none }
def LawS3269BPickWrongFalsely : Prop := lawS3269BPickRow.holds Yba.pinned (OpenSpec.ofChange lawS3269BPickWrong)

/-- 'ringherald.LawS3269BMin': WHATEVER THE INPUT: true; the input reads as it did. -/
def lawS3269BMinSpec : ChangeSpec := { name := "lawS3269BMin", fn := fun _ => fun
  | [d1, d2] => { results := [.lit (.bool true)], args := [d1, d2] }
  | _ => none }
def lawS3269BMinRow : OpenClaim := { program := "ybulkborg", sum := "1c85da8a973b9babd2cead2cfec99bf122a465d1976a99e5e31c4de317171505", func := "example.com/ringherald/ringherald.LawS3269BMin", spec := "lawS3269BMin", apart := false }
def LawS3269BMinSaid : Prop := lawS3269BMinRow.holds Yba.pinned (OpenSpec.ofChange lawS3269BMinSpec)

/-- ITS FALSE NEIGHBOUR: 'it returns false'. Refute it at one input. -/
def lawS3269BMinWrong : ChangeSpec := { name := "lawS3269BMin", fn := fun _ => fun
  | [d1, d2] => { results := [.lit (.bool false)], args := [d1, d2] }
  | _ => none }
def LawS3269BMinWrongFalsely : Prop := lawS3269BMinRow.holds Yba.pinned (OpenSpec.ofChange lawS3269BMinWrong)

end Rows
end Go.Proofs.Ybulkborg
