/-
  DERIVED. GIVEN WITH THE SEED: THE CARDS: each row of YbulkboqsFmtRows.lean that lists a variable, with what it lists TIED to the program's text (the seventh form; the later family's looks); each row that meets fmt, with fmt's text TOLD by the authors' own Lean function (tested against real Go, not proved from fmt's source: count such statements apart). THE CARD IS WHAT COUNTS. Prove the row's statement (the work); the ties are given (YbulkboqsFmtTie.lean); close each card by the builder's one call (the guide's Derived/Test/ToyasCard.lean, 'card_holds'). Laid BY PROGRAM, IN A SANDBOX (cutbox-door.mjs). By AI agents, Wed Nov 11 2026. No macro, syntax, notation, axiom, sorry.
-/
import Derived.Test.YbulkboqsFmtRows
import GoSem.ClaimSeven
namespace Go.Proofs.YbulkboqsFmt
namespace Rows

/-- THE TOLD CARD OF 'lark.LawS3268ARepeat'. -/
def lawS3268ARepeatCard : Claim7 := { stood := { row := lawS3268ARepeatRow, standIns := [], harness := (true, "650ac67a7ebf8b059fb2df56afd33c08ff117cb13afe3fccb85e7873a3ce8edd"), looks := false }, told := true, goes := false }
def LawS3268ARepeatToldSaid : Prop := Claim7.holds Ybaf.pinned (.plain (OpenSpec.ofChange lawS3268ARepeatSpec)) lawS3268ARepeatCard
/-- ITS FALSE NEIGHBOUR. Refute it at one input. -/
def LawS3268ARepeatToldWrongFalsely : Prop := Claim7.holds Ybaf.pinned (.plain (OpenSpec.ofChange lawS3268ARepeatWrong)) lawS3268ARepeatCard

/-- THE TOLD CARD OF 'lark.LawS3268AOps'. -/
def lawS3268AOpsCard : Claim7 := { stood := { row := lawS3268AOpsRow, standIns := [], harness := (true, "650ac67a7ebf8b059fb2df56afd33c08ff117cb13afe3fccb85e7873a3ce8edd"), looks := false }, told := true, goes := false }
def LawS3268AOpsToldSaid : Prop := Claim7.holds Ybaf.pinned (.plain (OpenSpec.ofChange lawS3268AOpsSpec)) lawS3268AOpsCard
/-- ITS FALSE NEIGHBOUR. Refute it at one input. -/
def LawS3268AOpsToldWrongFalsely : Prop := Claim7.holds Ybaf.pinned (.plain (OpenSpec.ofChange lawS3268AOpsWrong)) lawS3268AOpsCard
end Rows
end Go.Proofs.YbulkboqsFmt
