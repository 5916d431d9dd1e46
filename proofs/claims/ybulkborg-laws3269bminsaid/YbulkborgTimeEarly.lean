import Derived.Test.YbulkborgTimeAt
namespace Go.Proofs.Ybulkborg.Tm
open Go.RowKit Go

/-- The lesser of the two. -/
def least (x y : Int) : Int := if y < x then y else x

set_option maxHeartbeats 2000000 in
set_option maxRecDepth 100000 in
theorem earliest_any (x y : Int) (w : World) :
    Calls Yba.prog 11 #[.agg (T x), .agg (T y)] w fun e w' => e = .returned (.agg (T (least x y))) ∧ Below w.heap.size w w' := by
  obtain ⟨s, hs⟩ : ∃ s, x / 1000000000 = s := ⟨_, rfl⟩
  obtain ⟨r, hr⟩ : ∃ r, x % 1000000000 = r := ⟨_, rfl⟩
  obtain ⟨s', hs'⟩ : ∃ s, y / 1000000000 = s := ⟨_, rfl⟩
  obtain ⟨r', hr'⟩ : ∃ r, y % 1000000000 = r := ⟨_, rfl⟩
  have HX := hide (show T x = #[.int .u64 r, .int .i64 s, .pointer none] by rw [T, hs, hr])
  have HY := hide (show T y = #[.int .u64 r', .int .i64 s', .pointer none] by rw [T, hs', hr'])
  clear hs hr hs' hr'
  obtain ⟨W, hW⟩ : ∃ W, W = ((w.alloc (.cells #[.int .u64 r, .int .i64 s, .pointer none] 31)).alloc (.cells #[.int .u64 r', .int .i64 s', .pointer none] 31)).alloc (.cells #[.int .u64 0, .int .i64 0, .pointer none] 31) := ⟨_, rfl⟩
  have ha : W.heap[w.heap.size]? = some (.cells #[.int .u64 r, .int .i64 s, .pointer none] 31 (0, 0)) := by rw [hW]; exact (Below.heap_alloc _ _ _ (by simp; omega)).trans ((Below.heap_alloc _ _ _ (by simp)).trans (heap_alloc_new w _))
  have hb : W.heap[w.heap.size + 1]? = some (.cells #[.int .u64 r', .int .i64 s', .pointer none] 31 (0, 0)) := by
    rw [hW]
    refine (Below.heap_alloc _ _ _ (by simp)).trans ?_
    have := heap_alloc_new (w.alloc (.cells #[.int .u64 r, .int .i64 s, .pointer none] 31)) (.cells #[.int .u64 r', .int .i64 s', .pointer none] 31)
    rw [show (w.alloc (.cells #[.int .u64 r, .int .i64 s, .pointer none] 31)).heap.size = w.heap.size + 1 by simp] at this
    exact this
  have hr : W.heap[w.heap.size + 2]? = some (.cells #[.int .u64 0, .int .i64 0, .pointer none] 31 (0, 0)) := by
    have := heap_alloc_new ((w.alloc (.cells #[.int .u64 r, .int .i64 s, .pointer none] 31)).alloc (.cells #[.int .u64 r', .int .i64 s', .pointer none] 31)) (.cells #[.int .u64 0, .int .i64 0, .pointer none] 31)
    rw [← hW, show ((w.alloc (.cells #[.int .u64 r, .int .i64 s, .pointer none] 31)).alloc (.cells #[.int .u64 r', .int .i64 s', .pointer none] 31)).heap.size = w.heap.size + 2 by simp] at this
    exact this
  have bel : Below w.heap.size w W := by rw [hW]; exact (((Below.refl _ _).alloc (Nat.le_refl _) _).alloc (by simp) _).alloc (by simp; omega) _
  have HW := hide hW
  have HA := hide ha
  have HB := hide hb
  have HR := hide hr
  have HBel := hide bel
  clear hW ha hb hr bel
  by_cases h : y < x
  · have B0 := before_any y x W
    rw [HX.out, HY.out, decide_eq_true h] at B0
    have HB0 := hide B0
    rw [show least x y = y from if_pos h, HX.out, HY.out]
    clear B0 HX HY h
    go_enter Yba.func11, Yba.ntmps11
    go_wp2_with fail
    rw [← HW.out]
    refine HB0.out.mono ?_
    rintro e W' ⟨rfl, bel'⟩
    have hA : W'.heap[w.heap.size]? = _ := (bel'.block _ (lt_of_block HA.out)).trans HA.out
    have hB : W'.heap[w.heap.size + 1]? = _ := (bel'.block _ (lt_of_block HB.out)).trans HB.out
    have hR : W'.heap[w.heap.size + 2]? = _ := (bel'.block _ (lt_of_block HR.out)).trans HR.out
    have HZ := hide (HBel.out.trans (bel'.mono HBel.out.size))
    clear HB0 HA HB HR HW HBel bel'
    have c0 : W'.cell? ⟨w.heap.size, 0, none⟩ = some (.int .u64 r) := cell_of hA 0 _ rfl
    have c1 : W'.cell? ⟨w.heap.size, 1, none⟩ = some (.int .i64 s) := cell_of hA 1 _ rfl
    have c2 : W'.cell? ⟨w.heap.size, 2, none⟩ = some (.pointer none) := cell_of hA 2 _ rfl
    have b0 : W'.cell? ⟨w.heap.size + 1, 0, none⟩ = some (.int .u64 r') := cell_of hB 0 _ rfl
    have b1 : W'.cell? ⟨w.heap.size + 1, 1, none⟩ = some (.int .i64 s') := cell_of hB 1 _ rfl
    have b2 : W'.cell? ⟨w.heap.size + 1, 2, none⟩ = some (.pointer none) := cell_of hB 2 _ rfl
    have d0 : W'.cell? ⟨w.heap.size + 2, 0, none⟩ = some (.int .u64 0) := cell_of hR 0 _ rfl
    have d1 : W'.cell? ⟨w.heap.size + 2, 1, none⟩ = some (.int .i64 0) := cell_of hR 1 _ rfl
    have d2 : W'.cell? ⟨w.heap.size + 2, 2, none⟩ = some (.pointer none) := cell_of hR 2 _ rfl
    have g0 := free_of hR 0
    have g1 := free_of hR 1
    have g2 := free_of hR 2
    clear hA hB hR
    go_wp2
    exact bodyPost_ret (v := .agg #[.int .u64 r', .int .i64 s', .pointer none]) (by simp [results, Yba.results11, go_sem, d0, d1, d2]) rfl ⟨rfl, ((HZ.out.setCell (Nat.le_add_right _ 2) _).setCell (Nat.le_add_right _ 2) _).setCell (Nat.le_add_right _ 2) _⟩
  · have B0 := before_any y x W
    rw [HX.out, HY.out, decide_eq_false h] at B0
    have HB0 := hide B0
    rw [show least x y = x from if_neg h, HX.out, HY.out]
    clear B0 HX HY h
    go_enter Yba.func11, Yba.ntmps11
    go_wp2_with fail
    rw [← HW.out]
    refine HB0.out.mono ?_
    rintro e W' ⟨rfl, bel'⟩
    have hA : W'.heap[w.heap.size]? = _ := (bel'.block _ (lt_of_block HA.out)).trans HA.out
    have hB : W'.heap[w.heap.size + 1]? = _ := (bel'.block _ (lt_of_block HB.out)).trans HB.out
    have hR : W'.heap[w.heap.size + 2]? = _ := (bel'.block _ (lt_of_block HR.out)).trans HR.out
    have HZ := hide (HBel.out.trans (bel'.mono HBel.out.size))
    clear HB0 HA HB HR HW HBel bel'
    have c0 : W'.cell? ⟨w.heap.size, 0, none⟩ = some (.int .u64 r) := cell_of hA 0 _ rfl
    have c1 : W'.cell? ⟨w.heap.size, 1, none⟩ = some (.int .i64 s) := cell_of hA 1 _ rfl
    have c2 : W'.cell? ⟨w.heap.size, 2, none⟩ = some (.pointer none) := cell_of hA 2 _ rfl
    have b0 : W'.cell? ⟨w.heap.size + 1, 0, none⟩ = some (.int .u64 r') := cell_of hB 0 _ rfl
    have b1 : W'.cell? ⟨w.heap.size + 1, 1, none⟩ = some (.int .i64 s') := cell_of hB 1 _ rfl
    have b2 : W'.cell? ⟨w.heap.size + 1, 2, none⟩ = some (.pointer none) := cell_of hB 2 _ rfl
    have d0 : W'.cell? ⟨w.heap.size + 2, 0, none⟩ = some (.int .u64 0) := cell_of hR 0 _ rfl
    have d1 : W'.cell? ⟨w.heap.size + 2, 1, none⟩ = some (.int .i64 0) := cell_of hR 1 _ rfl
    have d2 : W'.cell? ⟨w.heap.size + 2, 2, none⟩ = some (.pointer none) := cell_of hR 2 _ rfl
    have g0 := free_of hR 0
    have g1 := free_of hR 1
    have g2 := free_of hR 2
    clear hA hB hR
    go_wp2
    exact bodyPost_ret (v := .agg #[.int .u64 r, .int .i64 s, .pointer none]) (by simp [results, Yba.results11, go_sem, d0, d1, d2]) rfl ⟨rfl, ((HZ.out.setCell (Nat.le_add_right _ 2) _).setCell (Nat.le_add_right _ 2) _).setCell (Nat.le_add_right _ 2) _⟩
end Go.Proofs.Ybulkborg.Tm
