/-
  No cell of these rows narrows 'for every input' (looked for: loops, veiled, ifaces, maps, wideKeys, modest, calm, conditions, laid).
  DERIVED. THE GIVEN ROWS OF THIS SEAT. 1 by the template 'for every input the law returns true; each argument reads behind the call as it read before'; 0 by the template 'total and deterministic' (their statements: YbulkboqsTotals.lean).
  GIVEN WITH THE SEED: the statements are not yours to turn. If you find one false, say at which input.
  Laid BY PROGRAM, IN A SANDBOX (cutbox-rows.mjs): the forced cells as the released guide's own fill.sh prints them over the translation 0da1c31b647b15d0… (all of the seat's roots in one cut). By AI agents, Wed Nov 11 2026. No macro, syntax, notation, axiom, sorry.
-/
import Derived.Test.YbulkboqsChecked
import GoSem.Claim
import GoSem.ClaimJoined
import GoSem.ClaimMapViews
import Derived.JoinedTies
import Derived.KernelRfl
namespace Go.Proofs.Ybulkboqs
/- THE CELL 'sum', in the pinned program and in every row, IS THE sha256 OF THE DUMP (.gsa) THAT YbulkboqsProg.lean LOADS. Nothing in Lean hashes anything: it is a label: what it is worth is what the hold of that sum in a sandbox is worth. -/
noncomputable def Yba.pinned : Pinned := { name := "ybulkboqs", sum := "0da1c31b647b15d0c1d4e0c5a91676f7253ab71d80a17909ac02e982cb6f3701", checked := Yba.checked }
namespace Rows
def none {H : Type} : Left H := { results := [], args := [] }

/-- 'grammar.LawS3268CModel': WHATEVER THE INPUT: true; the input reads as it did. -/
def lawS3268CModelSpec : ChangeSpec := { name := "lawS3268CModel", fn := fun _ => fun
  | [d1, d2, d3] => { results := [.lit (.bool true)], args := [d1, d2, d3] }
  | _ => none }
def lawS3268CModelRow : OpenClaim := { program := "ybulkboqs", sum := "0da1c31b647b15d0c1d4e0c5a91676f7253ab71d80a17909ac02e982cb6f3701", func := "example.com/forerunner/forerunner/pkg/grammar.LawS3268CModel", spec := "lawS3268CModel", apart := false }
def LawS3268CModelSaid : Prop := lawS3268CModelRow.holds Yba.pinned (OpenSpec.ofChange lawS3268CModelSpec)

/-- ITS FALSE NEIGHBOUR: 'it returns false'. Refute it at one input. -/
def lawS3268CModelWrong : ChangeSpec := { name := "lawS3268CModel", fn := fun _ => fun
  | [d1, d2, d3] => { results := [.lit (.bool false)], args := [d1, d2, d3] }
  | _ => none }
def LawS3268CModelWrongFalsely : Prop := lawS3268CModelRow.holds Yba.pinned (OpenSpec.ofChange lawS3268CModelWrong)

end Rows
end Go.Proofs.Ybulkboqs
