import Derived.Test.YbulkborgDoorAs0
namespace Go.Proofs.YbulkborgDoor.Em
open Go.RowKit Go

set_option maxHeartbeats 2000000 in
set_option maxRecDepth 100000 in
theorem as16_any (b : Nat → Int) (z : Value) (w : World) (hb : ∀ i, By (b i)) :
    Calls Ybad.prog 9 #[.agg #[.int .u64 (hi b), .int .u64 (lo b), z]] w fun e w' => e = .returned (.agg (b16 b)) ∧ Below w.heap.size w w' := by
  have HB := hide hb
  clear hb
  go_enter Ybad.func9, Ybad.ntmps9
  go_wp2
  obtain ⟨W, hW⟩ : ∃ W, W = (w.alloc (.cells #[.int .u64 (hi b), .int .u64 (lo b), z] 30)).alloc (.cells zero16 22) := ⟨_, rfl⟩
  have bel : Below w.heap.size w W := by rw [hW]; exact ((Below.refl _ _).alloc (Nat.le_refl _) _).alloc (by simp) _
  have ha : W.heap[w.heap.size]? = some (.cells #[.int .u64 (hi b), .int .u64 (lo b), z] 30 (0, 0)) := by rw [hW]; exact (Below.heap_alloc _ _ _ (by simp)).trans (heap_alloc_new w _)
  have hr : W.heap[w.heap.size + 1]? = some (.cells zero16 22 (0, 0)) := by
    have := heap_alloc_new (w.alloc (.cells #[.int .u64 (hi b), .int .u64 (lo b), z] 30)) (.cells zero16 22)
    rw [← hW, show (w.alloc (.cells #[.int .u64 (hi b), .int .u64 (lo b), z] 30)).heap.size = w.heap.size + 1 by simp] at this
    exact this
  rw [show ((w.alloc (.cells #[.int .u64 (hi b), .int .u64 (lo b), z] 30)).alloc (.cells #[.int .u8 0, .int .u8 0, .int .u8 0, .int .u8 0, .int .u8 0, .int .u8 0, .int .u8 0, .int .u8 0, .int .u8 0, .int .u8 0, .int .u8 0, .int .u8 0, .int .u8 0, .int .u8 0, .int .u8 0, .int .u8 0] 22)) = W from hW.symm]
  clear hW
  have a0 : W.cell? ⟨w.heap.size, 0, none⟩ = some (.int .u64 (hi b)) := cell_of ha 0 _ rfl
  have HR := hide hr
  have HA := hide ha
  clear hr ha
  go_region_with (go_at_call 11; refine (put_any (w.heap.size + 1) 0 16 (b 0) (b 1) (b 2) (b 3) (b 4) (b 5) (b 6) (b 7) _ zero16 22 (by exact HR.out) (by decide) (HB.out _) (HB.out _) (HB.out _) (HB.out _) (HB.out _) (HB.out _) (HB.out _) (HB.out _)).mono ?_; rintro e w' ⟨rfl, rfl⟩)
  go_wp2
  have hr1 : (put8 W.drew (w.heap.size + 1) 0 (b 0) (b 1) (b 2) (b 3) (b 4) (b 5) (b 6) (b 7)).heap[w.heap.size + 1]? = some (.cells (half16 b) 22 (0, 0)) := half_heap b (show W.drew.heap[w.heap.size + 1]? = _ from HR.out)
  have ha1 : (put8 W.drew (w.heap.size + 1) 0 (b 0) (b 1) (b 2) (b 3) (b 4) (b 5) (b 6) (b 7)).heap[w.heap.size]? = some (.cells #[.int .u64 (hi b), .int .u64 (lo b), z] 30 (0, 0)) := (put8_other _ _ _ _ _ _ _ _ (by omega)).trans HA.out
  have bel1 := put8_below (g := w.heap.size + 1) (o := 0) (b 0) (b 1) (b 2) (b 3) (b 4) (b 5) (b 6) (b 7) bel.drew (Nat.le_succ _)
  generalize put8 W.drew (w.heap.size + 1) 0 (b 0) (b 1) (b 2) (b 3) (b 4) (b 5) (b 6) (b 7) = W1 at *
  clear HR HA a0 bel
  have a1 : W1.cell? ⟨w.heap.size, 1, none⟩ = some (.int .u64 (lo b)) := cell_of ha1 1 _ rfl
  have HR := hide hr1
  clear hr1 ha1
  go_region_with (go_at_call 11; refine (put_any (w.heap.size + 1) 8 8 (b 8) (b 9) (b 10) (b 11) (b 12) (b 13) (b 14) (b 15) _ (half16 b) 22 (by exact HR.out) (by exact Nat.le_refl 16) (HB.out _) (HB.out _) (HB.out _) (HB.out _) (HB.out _) (HB.out _) (HB.out _) (HB.out _)).mono ?_; rintro e w' ⟨rfl, rfl⟩)
  have hr2 : (put8 W1.drew (w.heap.size + 1) 8 (b 8) (b 9) (b 10) (b 11) (b 12) (b 13) (b 14) (b 15)).heap[w.heap.size + 1]? = some (.cells (b16 b) 22 (0, 0)) := full_heap b (show W1.drew.heap[w.heap.size + 1]? = _ from HR.out)
  have bel2 := put8_below (g := w.heap.size + 1) (o := 8) (b 8) (b 9) (b 10) (b 11) (b 12) (b 13) (b 14) (b 15) bel1.drew (Nat.le_succ _)
  generalize put8 W1.drew (w.heap.size + 1) 8 (b 8) (b 9) (b 10) (b 11) (b 12) (b 13) (b 14) (b 15) = W2 at *
  clear HR a1 bel1
  have k0 : W2.cell? ⟨w.heap.size + 1, 0, none⟩ = some (.int .u8 (b 0)) := cell_of hr2 0 _ rfl
  have f0 := free_of hr2 0
  have k1 : W2.cell? ⟨w.heap.size + 1, 1, none⟩ = some (.int .u8 (b 1)) := cell_of hr2 1 _ rfl
  have f1 := free_of hr2 1
  have k2 : W2.cell? ⟨w.heap.size + 1, 2, none⟩ = some (.int .u8 (b 2)) := cell_of hr2 2 _ rfl
  have f2 := free_of hr2 2
  have k3 : W2.cell? ⟨w.heap.size + 1, 3, none⟩ = some (.int .u8 (b 3)) := cell_of hr2 3 _ rfl
  have f3 := free_of hr2 3
  have k4 : W2.cell? ⟨w.heap.size + 1, 4, none⟩ = some (.int .u8 (b 4)) := cell_of hr2 4 _ rfl
  have f4 := free_of hr2 4
  have k5 : W2.cell? ⟨w.heap.size + 1, 5, none⟩ = some (.int .u8 (b 5)) := cell_of hr2 5 _ rfl
  have f5 := free_of hr2 5
  have k6 : W2.cell? ⟨w.heap.size + 1, 6, none⟩ = some (.int .u8 (b 6)) := cell_of hr2 6 _ rfl
  have f6 := free_of hr2 6
  have k7 : W2.cell? ⟨w.heap.size + 1, 7, none⟩ = some (.int .u8 (b 7)) := cell_of hr2 7 _ rfl
  have f7 := free_of hr2 7
  have k8 : W2.cell? ⟨w.heap.size + 1, 8, none⟩ = some (.int .u8 (b 8)) := cell_of hr2 8 _ rfl
  have f8 := free_of hr2 8
  have k9 : W2.cell? ⟨w.heap.size + 1, 9, none⟩ = some (.int .u8 (b 9)) := cell_of hr2 9 _ rfl
  have f9 := free_of hr2 9
  have k10 : W2.cell? ⟨w.heap.size + 1, 10, none⟩ = some (.int .u8 (b 10)) := cell_of hr2 10 _ rfl
  have f10 := free_of hr2 10
  have k11 : W2.cell? ⟨w.heap.size + 1, 11, none⟩ = some (.int .u8 (b 11)) := cell_of hr2 11 _ rfl
  have f11 := free_of hr2 11
  have k12 : W2.cell? ⟨w.heap.size + 1, 12, none⟩ = some (.int .u8 (b 12)) := cell_of hr2 12 _ rfl
  have f12 := free_of hr2 12
  have k13 : W2.cell? ⟨w.heap.size + 1, 13, none⟩ = some (.int .u8 (b 13)) := cell_of hr2 13 _ rfl
  have f13 := free_of hr2 13
  have k14 : W2.cell? ⟨w.heap.size + 1, 14, none⟩ = some (.int .u8 (b 14)) := cell_of hr2 14 _ rfl
  have f14 := free_of hr2 14
  have k15 : W2.cell? ⟨w.heap.size + 1, 15, none⟩ = some (.int .u8 (b 15)) := cell_of hr2 15 _ rfl
  have f15 := free_of hr2 15
  clear hr2
  go_wp2
  exact bodyPost_ret (v := .agg (b16 b)) (by simp [results, Ybad.results9, go_sem, k0, k1, k2, k3, k4, k5, k6, k7, k8, k9, k10, k11, k12, k13, k14, k15]) rfl ⟨rfl, ((((((((((((((((bel2.setCell (Nat.le_succ _) _).setCell (Nat.le_succ _) _).setCell (Nat.le_succ _) _).setCell (Nat.le_succ _) _).setCell (Nat.le_succ _) _).setCell (Nat.le_succ _) _).setCell (Nat.le_succ _) _).setCell (Nat.le_succ _) _).setCell (Nat.le_succ _) _).setCell (Nat.le_succ _) _).setCell (Nat.le_succ _) _).setCell (Nat.le_succ _) _).setCell (Nat.le_succ _) _).setCell (Nat.le_succ _) _).setCell (Nat.le_succ _) _).setCell (Nat.le_succ _) _)⟩
end Go.Proofs.YbulkborgDoor.Em
