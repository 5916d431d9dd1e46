import Derived.Test.YbulkborgDoorRows
import Derived.WalkKit
import Derived.WalkLawsBesides
import Derived.WalkSpells
import Derived.Deep.QuietTactic
import Derived.BigQuiet
import Derived.Lib.EndianBits
namespace Go.Proofs.YbulkborgDoor.Em
open Go.RowKit Go

theorem hide {p : Prop} (h : p) : Hid p := h
/-- A byte's number. -/
def By (x : Int) : Prop := 0 ≤ x ∧ x ≤ 255
def be (x0 x1 x2 x3 x4 x5 x6 x7 : Int) : Int := x7 + x6 * 256 + x5 * 65536 + x4 * 16777216 + x3 * 4294967296 + x2 * 1099511627776 + x1 * 281474976710656 + x0 * 72057594037927936

theorem ret_u64 {a b : Int} (h : a = b) : Ending.returned (.int .u64 a) = .returned (.int .u64 b) := by rw [h]

theorem be_or {x0 x1 x2 x3 x4 x5 x6 x7 : Int} (h0 : 0 ≤ x0 ∧ x0 ≤ 255) (h1 : 0 ≤ x1 ∧ x1 ≤ 255) (h2 : 0 ≤ x2 ∧ x2 ≤ 255) (h3 : 0 ≤ x3 ∧ x3 ≤ 255) (h4 : 0 ≤ x4 ∧ x4 ≤ 255) (h5 : 0 ≤ x5 ∧ x5 ≤ 255) (h6 : 0 ≤ x6 ∧ x6 ≤ 255) (h7 : 0 ≤ x7 ∧ x7 ≤ 255) :
    bits .or .u64 (bits .or .u64 (bits .or .u64 (bits .or .u64 (bits .or .u64 (bits .or .u64 (bits .or .u64 x7 (x6 * 256)) (x5 * 65536)) (x4 * 16777216)) (x3 * 4294967296)) (x2 * 1099511627776)) (x1 * 281474976710656)) (x0 * 72057594037927936) = be x0 x1 x2 x3 x4 x5 x6 x7 := by
  unfold be
  simp (disch := omega) only [u64_or8, u64_or16, u64_or24, u64_or32, u64_or40, u64_or48, u64_or56]

set_option maxHeartbeats 8000000 in
set_option maxRecDepth 100000 in
theorem be_any (g o n c : Nat) (x0 x1 x2 x3 x4 x5 x6 x7 : Int) (w : World) (hn : n = 8)
    (c0 : w.cell? ⟨g, o, none⟩ = some (.int .u8 x0)) (c1 : w.cell? ⟨g, o + 1, none⟩ = some (.int .u8 x1)) (c2 : w.cell? ⟨g, o + 2, none⟩ = some (.int .u8 x2)) (c3 : w.cell? ⟨g, o + 3, none⟩ = some (.int .u8 x3)) (c4 : w.cell? ⟨g, o + 4, none⟩ = some (.int .u8 x4)) (c5 : w.cell? ⟨g, o + 5, none⟩ = some (.int .u8 x5)) (c6 : w.cell? ⟨g, o + 6, none⟩ = some (.int .u8 x6)) (c7 : w.cell? ⟨g, o + 7, none⟩ = some (.int .u8 x7))
    (h0 : By x0) (h1 : By x1) (h2 : By x2) (h3 : By x3) (h4 : By x4) (h5 : By x5) (h6 : By x6) (h7 : By x7) :
    Calls Ybad.prog 10 #[.slice (some ⟨g, o, none⟩) n c] w fun e w' => e = .returned (.int .u64 (be x0 x1 x2 x3 x4 x5 x6 x7)) ∧ ∃ q, w' = w.drewN q := by
  unfold By at h0 h1 h2 h3 h4 h5 h6 h7
  subst hn
  go_enter Ybad.func10, Ybad.ntmps10
  go_wp2
  go_quiet (fail)
  go_wp2
  go_ret
  exact ⟨ret_u64 (be_or h0 h1 h2 h3 h4 h5 h6 h7), _, rfl⟩
end Go.Proofs.YbulkborgDoor.Em
