import Derived.Test.YbulkboqsRows
import Derived.WalkKit
import Derived.WalkLawsBesides
import Derived.WalkSpells
import Derived.Deep.QuietTactic
import Derived.BigQuiet
namespace Go.Proofs.Ybulkboqs.Cm
open Go.RowKit Go

/-- The cells of a row of int32. -/
abbrev I32 (xs : List Int) : List Value := xs.map (Value.int .i32)

theorem cell_own {w : World} {base g n cap : Nat} {xs : List Int} (h : w.ownsRow base 26 1 (.slice (some ⟨g, 0, none⟩) n cap) n (I32 xs)) (j : Nat) (hj : j < n) :
    w.cell? ⟨g, j, none⟩ = some (.int .i32 (xs.getD j 0)) := by
  have hl := h.1
  simp at hl
  rw [h.cellAt j (by omega)]
  simp [List.getElem?_eq_getElem (show j < xs.length by omega)]

set_option maxHeartbeats 1000000 in
theorem equal_rows (g1 c1 g2 c2 b1 b2 n : Nat) (xs ys : List Int) (w : World) (hn : n ≤ 1024) (hx : w.ownsRow b1 26 1 (.slice (some ⟨g1, 0, none⟩) n c1) n (I32 xs)) (hy : w.ownsRow b2 26 1 (.slice (some ⟨g2, 0, none⟩) n c2) n (I32 ys))
    (heq : xs = ys) :
    Calls Yba.prog 6 #[.slice (some ⟨g1, 0, none⟩) n c1, .slice (some ⟨g2, 0, none⟩) n c2] w fun e w' => e = .returned (.bool true) ∧ ∃ q, w' = w.drewN q := by
  subst heq
  go_enter Yba.func6, Yba.ntmps6
  go_wp2
  go_loopw [5, 13] (fun v i wr => ∃ k : Nat, k ≤ n ∧ i = .int .i64 k ∧ ∃ q, wr = w.drewN q) (fun _ i _ => n - (intOf i).toNat)
  case atStart => exact ⟨0, Nat.zero_le _, rfl, 0, rfl⟩
  case round =>
    obtain ⟨k, hk, rfl, q, rfl⟩ := hrel
    by_cases hlt : k < n
    · have c1 := cell_own hx k hlt
      have c2 := cell_own hy k hlt
      go_wp2
      go_quiet (fail)
      go_wp2
      go_roundw
      case rel => exact ⟨k + 1, by omega, by go_num, _, rfl⟩
      case measure => simp [intOf]; omega
    · go_wp2
      go_ret
      exact ⟨rfl, q, rfl⟩
end Go.Proofs.Ybulkboqs.Cm
