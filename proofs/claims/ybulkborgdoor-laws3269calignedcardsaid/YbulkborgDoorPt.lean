import Derived.Test.YbulkborgDoorPick
import Derived.Laws.StructEq
import Derived.Laws.Pointers
namespace Go.Proofs.YbulkborgDoor.Em
open Go.RowKit Go

/-- A pointer of the type 26 equals itself. -/
@[go_sem] theorem run_ptr_same (w : World) (d : Nat) (p : Option Addr) : (Op.equalIn (d + 1) 26 (.pointer p) (.pointer p)).run Ybad.prog w = .ok true w := by
  cases p with
  | none => simp [Op.equalIn, run_underlying Ybad.underlying26]
  | some a =>
    have hs : (sizeOf 62).run Ybad.prog w = .ok 2 w := Ybad.sizeOf62 w
    simp [Op.equalIn, run_underlying Ybad.underlying26, hs, sameAddr]

/-- '==' of an address with itself. -/
theorem eqAddr (x y : Int) (z : Option Addr) (w : World) : (binOp .eql 30 (.agg #[.int .u64 x, .int .u64 y, .pointer z]) (.agg #[.int .u64 x, .int .u64 y, .pointer z])).run Ybad.prog w = .ok (.bool true) w := by
  have hS : Ybad.prog.underlying 30 = some (.struct (Ybad.prog.fieldsOf 30)) := by kernel_rfl
  have hp : Ybad.prog.stoodInHeld 30 = false := by kernel_rfl
  rw [run_eql_struct, show (10000 : Nat) = 9999 + 1 from rfl, run_equalIn_agg w 9999 30 _ _ hS hp]
  simp only [Program.fieldsOf, Ybad.underlying30]
  go_simp
end Go.Proofs.YbulkborgDoor.Em
