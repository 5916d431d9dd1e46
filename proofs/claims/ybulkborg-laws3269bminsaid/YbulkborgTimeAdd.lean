import Derived.Test.YbulkborgTime
namespace Go.Proofs.Ybulkborg.Tm
open Go.RowKit Go

/-- The time that lies n nanoseconds from the zero time. -/
def T (n : Int) : Array Value := #[.int .u64 (n % 1000000000), .int .i64 (n / 1000000000), .pointer none]

theorem parts (n : Int) :
    ∃ q r : Int, n.tdiv 1000000000 = q ∧ n.tmod 1000000000 = r ∧ ((0 ≤ r ∧ r < 1000000000 ∧ r = n % 1000000000 ∧ q = n / 1000000000) ∨ (r < 0 ∧ -1000000000 < r ∧ r + 1000000000 = n % 1000000000 ∧ q - 1 = n / 1000000000)) := by
  refine ⟨_, _, rfl, rfl, ?_⟩
  have e := Int.mul_tdiv_add_tmod n 1000000000
  by_cases hn : 0 ≤ n
  · left
    rw [Int.tmod_eq_emod_of_nonneg hn, Int.tdiv_eq_ediv_of_nonneg hn]
    omega
  · have hb := Int.lt_tmod_of_pos n (show (0 : Int) < 1000000000 by decide)
    have hle : n.tmod 1000000000 ≤ 0 := by
      have h := Int.tmod_nonneg (a := -n) 1000000000 (by omega)
      rw [Int.neg_tmod] at h
      omega
    generalize n.tmod 1000000000 = r at *
    generalize n.tdiv 1000000000 = q at *
    omega

set_option maxHeartbeats 2000000 in
set_option maxRecDepth 100000 in
theorem add_zero (n : Int) (w : World) (h0 : -9223372036854775808 ≤ n) (h1 : n ≤ 9223372036854775807) :
    Calls Yba.prog 14 #[.agg #[.int .u64 0, .int .i64 0, .pointer none], .int .i64 n] w fun e w' => e = .returned (.agg (T n)) ∧ Below w.heap.size w w' := by
  obtain ⟨q, r, hq, hr', hh⟩ := parts n
  have hqb : -9223372038 ≤ q ∧ q ≤ 9223372038 := by rcases hh with h | h <;> omega
  obtain ⟨hq0, hq1⟩ := hqb
  rcases hh with ⟨r0, r1, r2, r3⟩ | ⟨r0, r1, r2, r3⟩
  · have R2 := hide r2
    have R3 := hide r3
    clear r2 r3
    go_enter Yba.func14, Yba.ntmps14
    go_wp2_with fail
    obtain ⟨W, hW⟩ : ∃ W, W = (w.alloc (.cells #[.int .u64 0, .int .i64 0, .pointer none] 31)).alloc (.cells #[.int .u64 0, .int .i64 0, .pointer none] 31) := ⟨_, rfl⟩
    have bel : Below w.heap.size w W := by rw [hW]; exact ((Below.refl _ _).alloc (Nat.le_refl _) _).alloc (by simp) _
    have ha : W.heap[w.heap.size]? = some (.cells #[.int .u64 0, .int .i64 0, .pointer none] 31 (0, 0)) := by rw [hW]; exact (Below.heap_alloc _ _ _ (by simp)).trans (heap_alloc_new w _)
    have hr : W.heap[w.heap.size + 1]? = some (.cells #[.int .u64 0, .int .i64 0, .pointer none] 31 (0, 0)) := by
      have := heap_alloc_new (w.alloc (.cells #[.int .u64 0, .int .i64 0, .pointer none] 31)) (.cells #[.int .u64 0, .int .i64 0, .pointer none] 31)
      rw [← hW, show (w.alloc (.cells #[.int .u64 0, .int .i64 0, .pointer none] 31)).heap.size = w.heap.size + 1 by simp] at this
      exact this
    rw [← hW]
    clear hW
    have c0 : W.cell? ⟨w.heap.size, 0, none⟩ = some (.int .u64 0) := cell_of ha 0 _ rfl
    have c1 : W.cell? ⟨w.heap.size, 1, none⟩ = some (.int .i64 0) := cell_of ha 1 _ rfl
    have c2 : W.cell? ⟨w.heap.size, 2, none⟩ = some (.pointer none) := cell_of ha 2 _ rfl
    have f0 := free_of ha 0
    have f1 := free_of ha 1
    have d0 : W.cell? ⟨w.heap.size + 1, 0, none⟩ = some (.int .u64 0) := cell_of hr 0 _ rfl
    have d1 : W.cell? ⟨w.heap.size + 1, 1, none⟩ = some (.int .i64 0) := cell_of hr 1 _ rfl
    have d2 : W.cell? ⟨w.heap.size + 1, 2, none⟩ = some (.pointer none) := cell_of hr 2 _ rfl
    have g0 := free_of hr 0
    have g1 := free_of hr 1
    have g2 := free_of hr 2
    have HBel := hide bel
    have HA := hide ha
    have HR := hide hr
    clear ha hr bel
    refine (nsec_any w.heap.size 0 W (by decide) (by decide) c0).mono ?_
    rintro e W' ⟨rfl, rfl⟩
    go_wp2_with fail
    rw [or_zero r (by omega) (by omega)]
    have hA1 : (W'.setCell ⟨w.heap.size, 0, none⟩ (.int .u64 (r))).heap[w.heap.size]? = some (.cells #[.int .u64 (r), .int .i64 0, .pointer none] 31 (0, 0)) := heap_setCell_same W' w.heap.size 0 _ 31 _ HA.out
    have hR1 : (W'.setCell ⟨w.heap.size, 0, none⟩ (.int .u64 (r))).heap[w.heap.size + 1]? = some (.cells #[.int .u64 0, .int .i64 0, .pointer none] 31 (0, 0)) := (Below.heap_setCell _ _ _ _ (by show w.heap.size + 1 ≠ w.heap.size; omega)).trans HR.out
    have hB1 : Below w.heap.size w (W'.setCell ⟨w.heap.size, 0, none⟩ (.int .u64 (r))) := HBel.out.setCell (Nat.le_refl _) _
    generalize W'.setCell ⟨w.heap.size, 0, none⟩ (.int .u64 (r)) = W1 at *
    clear c0 c1 c2 f0 f1 d0 d1 d2 g0 g1 g2 HBel HA HR
    refine (addSec_any w.heap.size (r) 0 (q) W1 (by omega) (by omega) (cell_of hA1 0 _ rfl) (cell_of hA1 1 _ rfl) (free_of hA1 1) (by omega) (by omega)).mono ?_
    rintro e W2 ⟨rfl, hW2⟩
    have hA2 : W2.heap[w.heap.size]? = some (.cells #[.int .u64 (r), .int .i64 (q), .pointer none] 31 (0, 0)) := by rw [hW2, Int.zero_add]; exact heap_setCell_same W1 w.heap.size 1 _ 31 _ hA1
    have hR2 : W2.heap[w.heap.size + 1]? = some (.cells #[.int .u64 0, .int .i64 0, .pointer none] 31 (0, 0)) := by rw [hW2]; exact (Below.heap_setCell _ _ _ _ (by show w.heap.size + 1 ≠ w.heap.size; omega)).trans hR1
    have HB2 : Hid (Below w.heap.size w W2) := by rw [hW2]; exact hide (hB1.setCell (Nat.le_refl _) _)
    clear hW2 hA1 hR1 hB1
    have c0 : W2.cell? ⟨w.heap.size, 0, none⟩ = some (.int .u64 (r)) := cell_of hA2 0 _ rfl
    have c1 : W2.cell? ⟨w.heap.size, 1, none⟩ = some (.int .i64 (q)) := cell_of hA2 1 _ rfl
    have c2 : W2.cell? ⟨w.heap.size, 2, none⟩ = some (.pointer none) := cell_of hA2 2 _ rfl
    have d0 : W2.cell? ⟨w.heap.size + 1, 0, none⟩ = some (.int .u64 0) := cell_of hR2 0 _ rfl
    have d1 : W2.cell? ⟨w.heap.size + 1, 1, none⟩ = some (.int .i64 0) := cell_of hR2 1 _ rfl
    have d2 : W2.cell? ⟨w.heap.size + 1, 2, none⟩ = some (.pointer none) := cell_of hR2 2 _ rfl
    have g0 := free_of hR2 0
    have g1 := free_of hR2 1
    have g2 := free_of hR2 2
    clear hA2 hR2
    have hm := and_flag (r) (by omega) (by omega)
    go_wp2
    exact bodyPost_ret (v := .agg #[.int .u64 (r), .int .i64 (q), .pointer none]) (by simp [results, Yba.results14, go_sem, d0, d1, d2]) rfl ⟨by rw [T, ← R2.out, ← R3.out], ((HB2.out.setCell (Nat.le_succ _) _).setCell (Nat.le_succ _) _).setCell (Nat.le_succ _) _⟩
  · have R2 := hide r2
    have R3 := hide r3
    clear r2 r3
    go_enter Yba.func14, Yba.ntmps14
    go_wp2_with fail
    obtain ⟨W, hW⟩ : ∃ W, W = (w.alloc (.cells #[.int .u64 0, .int .i64 0, .pointer none] 31)).alloc (.cells #[.int .u64 0, .int .i64 0, .pointer none] 31) := ⟨_, rfl⟩
    have bel : Below w.heap.size w W := by rw [hW]; exact ((Below.refl _ _).alloc (Nat.le_refl _) _).alloc (by simp) _
    have ha : W.heap[w.heap.size]? = some (.cells #[.int .u64 0, .int .i64 0, .pointer none] 31 (0, 0)) := by rw [hW]; exact (Below.heap_alloc _ _ _ (by simp)).trans (heap_alloc_new w _)
    have hr : W.heap[w.heap.size + 1]? = some (.cells #[.int .u64 0, .int .i64 0, .pointer none] 31 (0, 0)) := by
      have := heap_alloc_new (w.alloc (.cells #[.int .u64 0, .int .i64 0, .pointer none] 31)) (.cells #[.int .u64 0, .int .i64 0, .pointer none] 31)
      rw [← hW, show (w.alloc (.cells #[.int .u64 0, .int .i64 0, .pointer none] 31)).heap.size = w.heap.size + 1 by simp] at this
      exact this
    rw [← hW]
    clear hW
    have c0 : W.cell? ⟨w.heap.size, 0, none⟩ = some (.int .u64 0) := cell_of ha 0 _ rfl
    have c1 : W.cell? ⟨w.heap.size, 1, none⟩ = some (.int .i64 0) := cell_of ha 1 _ rfl
    have c2 : W.cell? ⟨w.heap.size, 2, none⟩ = some (.pointer none) := cell_of ha 2 _ rfl
    have f0 := free_of ha 0
    have f1 := free_of ha 1
    have d0 : W.cell? ⟨w.heap.size + 1, 0, none⟩ = some (.int .u64 0) := cell_of hr 0 _ rfl
    have d1 : W.cell? ⟨w.heap.size + 1, 1, none⟩ = some (.int .i64 0) := cell_of hr 1 _ rfl
    have d2 : W.cell? ⟨w.heap.size + 1, 2, none⟩ = some (.pointer none) := cell_of hr 2 _ rfl
    have g0 := free_of hr 0
    have g1 := free_of hr 1
    have g2 := free_of hr 2
    have HBel := hide bel
    have HA := hide ha
    have HR := hide hr
    clear ha hr bel
    refine (nsec_any w.heap.size 0 W (by decide) (by decide) c0).mono ?_
    rintro e W' ⟨rfl, rfl⟩
    go_wp2_with fail
    rw [or_zero (r + 1000000000) (by omega) (by omega)]
    have hA1 : (W'.setCell ⟨w.heap.size, 0, none⟩ (.int .u64 (r + 1000000000))).heap[w.heap.size]? = some (.cells #[.int .u64 (r + 1000000000), .int .i64 0, .pointer none] 31 (0, 0)) := heap_setCell_same W' w.heap.size 0 _ 31 _ HA.out
    have hR1 : (W'.setCell ⟨w.heap.size, 0, none⟩ (.int .u64 (r + 1000000000))).heap[w.heap.size + 1]? = some (.cells #[.int .u64 0, .int .i64 0, .pointer none] 31 (0, 0)) := (Below.heap_setCell _ _ _ _ (by show w.heap.size + 1 ≠ w.heap.size; omega)).trans HR.out
    have hB1 : Below w.heap.size w (W'.setCell ⟨w.heap.size, 0, none⟩ (.int .u64 (r + 1000000000))) := HBel.out.setCell (Nat.le_refl _) _
    generalize W'.setCell ⟨w.heap.size, 0, none⟩ (.int .u64 (r + 1000000000)) = W1 at *
    clear c0 c1 c2 f0 f1 d0 d1 d2 g0 g1 g2 HBel HA HR
    refine (addSec_any w.heap.size (r + 1000000000) 0 (q - 1) W1 (by omega) (by omega) (cell_of hA1 0 _ rfl) (cell_of hA1 1 _ rfl) (free_of hA1 1) (by omega) (by omega)).mono ?_
    rintro e W2 ⟨rfl, hW2⟩
    have hA2 : W2.heap[w.heap.size]? = some (.cells #[.int .u64 (r + 1000000000), .int .i64 (q - 1), .pointer none] 31 (0, 0)) := by rw [hW2, Int.zero_add]; exact heap_setCell_same W1 w.heap.size 1 _ 31 _ hA1
    have hR2 : W2.heap[w.heap.size + 1]? = some (.cells #[.int .u64 0, .int .i64 0, .pointer none] 31 (0, 0)) := by rw [hW2]; exact (Below.heap_setCell _ _ _ _ (by show w.heap.size + 1 ≠ w.heap.size; omega)).trans hR1
    have HB2 : Hid (Below w.heap.size w W2) := by rw [hW2]; exact hide (hB1.setCell (Nat.le_refl _) _)
    clear hW2 hA1 hR1 hB1
    have c0 : W2.cell? ⟨w.heap.size, 0, none⟩ = some (.int .u64 (r + 1000000000)) := cell_of hA2 0 _ rfl
    have c1 : W2.cell? ⟨w.heap.size, 1, none⟩ = some (.int .i64 (q - 1)) := cell_of hA2 1 _ rfl
    have c2 : W2.cell? ⟨w.heap.size, 2, none⟩ = some (.pointer none) := cell_of hA2 2 _ rfl
    have d0 : W2.cell? ⟨w.heap.size + 1, 0, none⟩ = some (.int .u64 0) := cell_of hR2 0 _ rfl
    have d1 : W2.cell? ⟨w.heap.size + 1, 1, none⟩ = some (.int .i64 0) := cell_of hR2 1 _ rfl
    have d2 : W2.cell? ⟨w.heap.size + 1, 2, none⟩ = some (.pointer none) := cell_of hR2 2 _ rfl
    have g0 := free_of hR2 0
    have g1 := free_of hR2 1
    have g2 := free_of hR2 2
    clear hA2 hR2
    have hm := and_flag (r + 1000000000) (by omega) (by omega)
    go_wp2
    exact bodyPost_ret (v := .agg #[.int .u64 (r + 1000000000), .int .i64 (q - 1), .pointer none]) (by simp [results, Yba.results14, go_sem, d0, d1, d2]) rfl ⟨by rw [T, ← R2.out, ← R3.out], ((HB2.out.setCell (Nat.le_succ _) _).setCell (Nat.le_succ _) _).setCell (Nat.le_succ _) _⟩
end Go.Proofs.Ybulkborg.Tm
