import Derived.Test.YbulkborgDoorBe
import Derived.Deep.RegionWith
namespace Go.Proofs.YbulkborgDoor.Em
open Go.RowKit Go

theorem cell_of {w : World} {L : Nat} {cs : Array Value} {t : TypeId} (h : w.heap[L]? = some (.cells cs t (0, 0))) (i : Nat) (v : Value) (hv : cs[i]? = some v) : w.cell? ⟨L, i, none⟩ = some v := by simp [World.cell?, h, hv]
theorem free_of {w : World} {L : Nat} {cs : Array Value} {t : TypeId} (h : w.heap[L]? = some (.cells cs t (0, 0))) (i : Nat) : w.frozen? ⟨L, i, none⟩ = false := by simp [World.frozen?, h]

/-- Sixteen bytes. -/
abbrev b16 (b : Nat → Int) : Array Value := #[.int .u8 (b 0), .int .u8 (b 1), .int .u8 (b 2), .int .u8 (b 3), .int .u8 (b 4), .int .u8 (b 5), .int .u8 (b 6), .int .u8 (b 7), .int .u8 (b 8), .int .u8 (b 9), .int .u8 (b 10), .int .u8 (b 11), .int .u8 (b 12), .int .u8 (b 13), .int .u8 (b 14), .int .u8 (b 15)]
def hi (b : Nat → Int) : Int := be (b 0) (b 1) (b 2) (b 3) (b 4) (b 5) (b 6) (b 7)
def lo (b : Nat → Int) : Int := be (b 8) (b 9) (b 10) (b 11) (b 12) (b 13) (b 14) (b 15)

theorem be_hi (B c : Nat) (t : TypeId) (b : Nat → Int) (W : World) (hB : W.heap[B]? = some (.cells (b16 b) t (0, 0))) (hb : ∀ i, By (b i)) :
    Calls Ybad.prog 10 #[.slice (some ⟨B, 0, none⟩) 8 c] W fun e w' => e = .returned (.int .u64 (hi b)) ∧ ∃ q, w' = W.drewN q :=
  be_any B 0 8 c _ _ _ _ _ _ _ _ W rfl (cell_of hB 0 _ rfl) (cell_of hB 1 _ rfl) (cell_of hB 2 _ rfl) (cell_of hB 3 _ rfl) (cell_of hB 4 _ rfl) (cell_of hB 5 _ rfl) (cell_of hB 6 _ rfl) (cell_of hB 7 _ rfl) (hb _) (hb _) (hb _) (hb _) (hb _) (hb _) (hb _) (hb _)
theorem be_lo (B c : Nat) (t : TypeId) (b : Nat → Int) (W : World) (hB : W.heap[B]? = some (.cells (b16 b) t (0, 0))) (hb : ∀ i, By (b i)) :
    Calls Ybad.prog 10 #[.slice (some ⟨B, 8, none⟩) 8 c] W fun e w' => e = .returned (.int .u64 (lo b)) ∧ ∃ q, w' = W.drewN q :=
  be_any B 8 8 c _ _ _ _ _ _ _ _ W rfl (cell_of hB 8 _ rfl) (cell_of hB 9 _ rfl) (cell_of hB 10 _ rfl) (cell_of hB 11 _ rfl) (cell_of hB 12 _ rfl) (cell_of hB 13 _ rfl) (cell_of hB 14 _ rfl) (cell_of hB 15 _ rfl) (hb _) (hb _) (hb _) (hb _) (hb _) (hb _) (hb _) (hb _)

set_option maxHeartbeats 4000000 in
set_option maxRecDepth 100000 in
theorem from16_any (b : Nat → Int) (z6 : Option Addr) (w : World) (hb : ∀ i, By (b i)) (hz : w.cell? ⟨0, 0, none⟩ = some (.pointer z6)) (h0 : 0 < w.heap.size) :
    Calls Ybad.prog 6 #[.agg (b16 b)] w fun e w' => e = .returned (.agg #[.int .u64 (hi b), .int .u64 (lo b), .pointer z6]) ∧ Below w.heap.size w w' := by
  have HB := hide hb
  clear hb
  go_enter Ybad.func6, Ybad.ntmps6
  go_wp2
  obtain ⟨W, hW⟩ : ∃ W, W = (w.alloc (.cells (b16 b) 22)).alloc (.cells #[.int .u64 0, .int .u64 0, .pointer none] 30) := ⟨_, rfl⟩
  have bel : Below w.heap.size w W := by rw [hW]; exact ((Below.refl _ _).alloc (Nat.le_refl _) _).alloc (by simp) _
  have ha : W.heap[w.heap.size]? = some (.cells (b16 b) 22 (0, 0)) := by rw [hW]; exact (Below.heap_alloc _ _ _ (by simp)).trans (heap_alloc_new w _)
  have hr : W.heap[w.heap.size + 1]? = some (.cells #[.int .u64 0, .int .u64 0, .pointer none] 30 (0, 0)) := by
    have := heap_alloc_new (w.alloc (.cells (b16 b) 22)) (.cells #[.int .u64 0, .int .u64 0, .pointer none] 30)
    rw [← hW, show (w.alloc (.cells (b16 b) 22)).heap.size = w.heap.size + 1 by simp] at this
    exact this
  have hz' : W.cell? ⟨0, 0, none⟩ = some (.pointer z6) := (bel.cell (by exact h0)).trans hz
  rw [← hW]
  clear hW hz
  have r0 : W.cell? ⟨w.heap.size + 1, 0, none⟩ = some (.int .u64 0) := cell_of hr 0 _ rfl
  have r1 : W.cell? ⟨w.heap.size + 1, 1, none⟩ = some (.int .u64 0) := cell_of hr 1 _ rfl
  have r2 : W.cell? ⟨w.heap.size + 1, 2, none⟩ = some (.pointer none) := cell_of hr 2 _ rfl
  have f0 := free_of hr 0
  have f1 := free_of hr 1
  have f2 := free_of hr 2
  have HA := hide ha
  clear ha hr
  go_region_with (first | (go_at_call_of 10 (Value.slice (some ⟨w.heap.size, 0, none⟩) 8 16); refine (be_hi w.heap.size 16 22 b _ (by exact HA.out) HB.out).mono ?_; rintro e w' ⟨rfl, q1, rfl⟩) | (go_at_call_of 10 (Value.slice (some ⟨w.heap.size, 8, none⟩) 8 8); refine (be_lo w.heap.size 8 22 b _ (by exact HA.out) HB.out).mono ?_; rintro e w' ⟨rfl, q2, rfl⟩))
  all_goals
    go_wp2
    exact bodyPost_ret (v := .agg #[.int .u64 (hi b), .int .u64 (lo b), .pointer z6]) (by simp [results, Ybad.results6, go_sem, r0, r1, r2]) rfl ⟨rfl, (((below_drewN bel _).setCell (Nat.le_succ _) _).setCell (Nat.le_succ _) _).setCell (Nat.le_succ _) _⟩

end Go.Proofs.YbulkborgDoor.Em
