/-
  No cell of these rows narrows 'for every input' (looked for: loops, veiled, ifaces, maps, wideKeys, modest, calm, conditions, laid).
  DERIVED. THE GIVEN ROWS OF THIS SEAT. 2 by the template 'for every input the law returns true; each argument reads behind the call as it read before'; 0 by the template 'total and deterministic' (their statements: YbulkboqsFmtTotals.lean).
  GIVEN WITH THE SEED: the statements are not yours to turn. If you find one false, say at which input.
  Laid BY PROGRAM, IN A SANDBOX (cutbox-rows.mjs): the forced cells as the released guide's own fill.sh prints them over the translation 10e0b08080b7bfcf… (all of the seat's roots in one cut). By AI agents, Wed Nov 11 2026. No macro, syntax, notation, axiom, sorry.
-/
import Derived.Test.YbulkboqsFmtChecked
import GoSem.Claim
import GoSem.ClaimJoined
import GoSem.ClaimMapViews
import Derived.JoinedTies
import Derived.KernelRfl
namespace Go.Proofs.YbulkboqsFmt
/- THE CELL 'sum', in the pinned program and in every row, IS THE sha256 OF THE DUMP (.gsa) THAT YbulkboqsFmtProg.lean LOADS. Nothing in Lean hashes anything: it is a label: what it is worth is what the hold of that sum in a sandbox is worth. -/
noncomputable def Ybaf.pinned : Pinned := { name := "ybulkboqsfmt", sum := "10e0b08080b7bfcf7e34cc070726e85a3f986bbc8293ea5e89cdcad6585d434d", checked := Ybaf.checked }
namespace Rows
def none {H : Type} : Left H := { results := [], args := [] }

/-- 'lark.LawS3268ARepeat': WHATEVER THE INPUT: true; the input reads as it did. -/
def lawS3268ARepeatSpec : ChangeSpec := { name := "lawS3268ARepeat", fn := fun _ => fun
  | [d1, d2, d3] => { results := [.lit (.bool true)], args := [d1, d2, d3] }
  | _ => none }
def lawS3268ARepeatRow : OpenClaim := { program := "ybulkboqsfmt", sum := "10e0b08080b7bfcf7e34cc070726e85a3f986bbc8293ea5e89cdcad6585d434d", func := "example.com/forerunner/forerunner/pkg/lark.LawS3268ARepeat", spec := "lawS3268ARepeat", stops := ["fmt.Sprintf"], inPlace := ["fmt.Sprintf", "internal/abi.NoEscape", "internal/bytealg.MakeNoZero"], recurses := true, plainKeys := false, apart := false }
/-- NO THEOREM (fmt's text is open here; it may be false): for the released tool's asking of the row's closed facts alone. THE STATEMENT IS 'LawS3268ARepeatToldSaid' (YbulkboqsFmtCards.lean). -/
def LawS3268ARepeatFormAsk : Prop := lawS3268ARepeatRow.holds Ybaf.pinned (OpenSpec.ofChange lawS3268ARepeatSpec)

/-- ITS FALSE NEIGHBOUR: 'it returns false'. Refute it at one input. -/
def lawS3268ARepeatWrong : ChangeSpec := { name := "lawS3268ARepeat", fn := fun _ => fun
  | [d1, d2, d3] => { results := [.lit (.bool false)], args := [d1, d2, d3] }
  | _ => none }
def LawS3268ARepeatWrongFormAsk : Prop := lawS3268ARepeatRow.holds Ybaf.pinned (OpenSpec.ofChange lawS3268ARepeatWrong)

/-- 'lark.LawS3268AOps': WHATEVER THE INPUT: true; the input reads as it did. -/
def lawS3268AOpsSpec : ChangeSpec := { name := "lawS3268AOps", fn := fun _ => fun
  | [d1, d2, d3, d4] => { results := [.lit (.bool true)], args := [d1, d2, d3, d4] }
  | _ => none }
def lawS3268AOpsRow : OpenClaim := { program := "ybulkboqsfmt", sum := "10e0b08080b7bfcf7e34cc070726e85a3f986bbc8293ea5e89cdcad6585d434d", func := "example.com/forerunner/forerunner/pkg/lark.LawS3268AOps", spec := "lawS3268AOps", stops := ["fmt.Sprintf"], inPlace := ["fmt.Sprintf", "internal/abi.NoEscape", "internal/bytealg.MakeNoZero"], recurses := true, plainKeys := false, apart := false }
/-- NO THEOREM (fmt's text is open here; it may be false): for the released tool's asking of the row's closed facts alone. THE STATEMENT IS 'LawS3268AOpsToldSaid' (YbulkboqsFmtCards.lean). -/
def LawS3268AOpsFormAsk : Prop := lawS3268AOpsRow.holds Ybaf.pinned (OpenSpec.ofChange lawS3268AOpsSpec)

/-- ITS FALSE NEIGHBOUR: 'it returns false'. Refute it at one input. -/
def lawS3268AOpsWrong : ChangeSpec := { name := "lawS3268AOps", fn := fun _ => fun
  | [d1, d2, d3, d4] => { results := [.lit (.bool false)], args := [d1, d2, d3, d4] }
  | _ => none }
def LawS3268AOpsWrongFormAsk : Prop := lawS3268AOpsRow.holds Ybaf.pinned (OpenSpec.ofChange lawS3268AOpsWrong)

end Rows
end Go.Proofs.YbulkboqsFmt
