import Derived.Test.YbulkborgTimeAdd
namespace Go.Proofs.Ybulkborg.Tm
open Go.RowKit Go

set_option maxHeartbeats 2000000 in
set_option maxRecDepth 100000 in
theorem at_any (n : Int) (w : World) (h0 : -9223372036854775808 ≤ n) (h1 : n ≤ 9223372036854775807) :
    Calls Yba.prog 10 #[.int .i64 n] w fun e w' => e = .returned (.agg (T n)) ∧ Below w.heap.size w w' := by
  have H14 := hide (fun W => add_zero n W h0 h1)
  go_enter Yba.func10, Yba.ntmps10
  go_wp2_with fail
  refine (H14.out _).mono ?_
  rintro e W ⟨rfl, bel1⟩
  have hR : W.heap[w.heap.size]? = some (.cells #[.int .u64 0, .int .i64 0, .pointer none] 31 (0, 0)) := (bel1.block _ (by simp)).trans (heap_alloc_new w _)
  have HB : Hid (Below w.heap.size w W) := hide (((Below.refl _ _).alloc (Nat.le_refl _) _).trans (bel1.mono (by simp)))
  clear H14 bel1
  have d0 : W.cell? ⟨w.heap.size, 0, none⟩ = some (.int .u64 0) := cell_of hR 0 _ rfl
  have d1 : W.cell? ⟨w.heap.size, 1, none⟩ = some (.int .i64 0) := cell_of hR 1 _ rfl
  have d2 : W.cell? ⟨w.heap.size, 2, none⟩ = some (.pointer none) := cell_of hR 2 _ rfl
  have g0 := free_of hR 0
  have g1 := free_of hR 1
  have g2 := free_of hR 2
  clear hR
  unfold T
  go_wp2
  exact bodyPost_ret (v := .agg #[.int .u64 (n % 1000000000), .int .i64 (n / 1000000000), .pointer none]) (by simp [results, Yba.results10, go_sem, d0, d1, d2]) rfl ⟨rfl, ((HB.out.setCell (Nat.le_refl _) _).setCell (Nat.le_refl _) _).setCell (Nat.le_refl _) _⟩

/-- The bounds of the two parts. -/
theorem floor_lt (x y : Int) : y < x ↔ (y / 1000000000 < x / 1000000000 ∨ (y / 1000000000 = x / 1000000000 ∧ y % 1000000000 < x % 1000000000)) := by omega
theorem floor_eq (x y : Int) (h : y / 1000000000 = x / 1000000000) (h' : y % 1000000000 = x % 1000000000) : y = x := by omega

set_option maxHeartbeats 2000000 in
set_option maxRecDepth 100000 in
/-- Before: the earlier of the two numbers. -/
theorem before_any (x y : Int) (w : World) :
    Calls Yba.prog 15 #[.agg (T x), .agg (T y)] w fun e w' => e = .returned (.bool (decide (x < y))) ∧ Below w.heap.size w w' := by
  obtain ⟨s, hs⟩ : ∃ s, s = x / 1000000000 := ⟨_, rfl⟩
  obtain ⟨r, hr⟩ : ∃ r, r = x % 1000000000 := ⟨_, rfl⟩
  obtain ⟨s', hs'⟩ : ∃ s, s = y / 1000000000 := ⟨_, rfl⟩
  obtain ⟨r', hr'⟩ : ∃ r, r = y % 1000000000 := ⟨_, rfl⟩
  have r0 : 0 ≤ r := by omega
  have r1 : r < 1073741824 := by omega
  have r0' : 0 ≤ r' := by omega
  have r1' : r' < 1073741824 := by omega
  have key : decide (x < y) = decide (s < s' ∨ (s = s' ∧ r < r')) := by
    apply decide_eq_decide.2
    rw [hs, hs', hr, hr']
    exact floor_lt y x
  unfold T
  rw [key, ← hs, ← hs', ← hr, ← hr']
  clear key hs hs' hr hr'
  have hm := and_two r r' r0 r1 r0' r1'
  obtain ⟨W, hW⟩ : ∃ W, W = (w.alloc (.cells #[.int .u64 r, .int .i64 s, .pointer none] 31)).alloc (.cells #[.int .u64 r', .int .i64 s', .pointer none] 31) := ⟨_, rfl⟩
  have ha : W.heap[w.heap.size]? = some (.cells #[.int .u64 r, .int .i64 s, .pointer none] 31 (0, 0)) := by rw [hW]; exact (Below.heap_alloc _ _ _ (by simp)).trans (heap_alloc_new w _)
  have hb : W.heap[w.heap.size + 1]? = some (.cells #[.int .u64 r', .int .i64 s', .pointer none] 31 (0, 0)) := by
    have := heap_alloc_new (w.alloc (.cells #[.int .u64 r, .int .i64 s, .pointer none] 31)) (.cells #[.int .u64 r', .int .i64 s', .pointer none] 31)
    rw [← hW, show (w.alloc (.cells #[.int .u64 r, .int .i64 s, .pointer none] 31)).heap.size = w.heap.size + 1 by simp] at this
    exact this
  have HB : Hid (Below w.heap.size w W) := by rw [hW]; exact hide (((Below.refl _ _).alloc (Nat.le_refl _) _).alloc (by simp) _)
  have S1 := hide (sec_any w.heap.size r s W r0 r1 (cell_of ha 0 _ rfl) (cell_of ha 1 _ rfl))
  have S2 := hide (sec_any (w.heap.size + 1) r' s' W r0' r1' (cell_of hb 0 _ rfl) (cell_of hb 1 _ rfl))
  have N1 := hide (nsec_any w.heap.size r W r0 r1 (cell_of ha 0 _ rfl))
  have N2 := hide (nsec_any (w.heap.size + 1) r' W r0' r1' (cell_of hb 0 _ rfl))
  clear ha hb
  have HW := hide hW
  clear hW
  rcases Int.lt_trichotomy s s' with h | h | h
  · have hd : decide (s < s' ∨ s = s' ∧ r < r') = true := by simp [h]
    rw [hd]
    go_enter Yba.func15, Yba.ntmps15
    go_wp2_with fail
    rw [← HW.out]
    refine S1.out.mono ?_
    rintro e W' ⟨rfl, hW'⟩
    rw [hW']
    clear hW'
    go_wp2_with fail
    refine S2.out.mono ?_
    rintro e W' ⟨rfl, hW'⟩
    rw [hW']
    clear hW'
    go_wp2_with fail
    go_ret
    exact ⟨rfl, HB.out⟩
  · subst h
    have hd : decide (s < s ∨ s = s ∧ r < r') = decide (r < r') := by simp
    rw [hd]
    go_enter Yba.func15, Yba.ntmps15
    go_wp2_with fail
    rw [← HW.out]
    refine S1.out.mono ?_
    rintro e W' ⟨rfl, hW'⟩
    rw [hW']
    clear hW'
    go_wp2_with fail
    refine S2.out.mono ?_
    rintro e W' ⟨rfl, hW'⟩
    rw [hW']
    clear hW'
    go_wp2_with fail
    refine N1.out.mono ?_
    rintro e W' ⟨rfl, hW'⟩
    rw [hW']
    clear hW'
    go_wp2_with fail
    refine N2.out.mono ?_
    rintro e W' ⟨rfl, hW'⟩
    rw [hW']
    clear hW'
    go_wp2_with fail
    go_ret
    exact ⟨rfl, HB.out⟩
  · have hd : decide (s < s' ∨ s = s' ∧ r < r') = false := decide_eq_false (by omega)
    have h' : ¬ s < s' := by omega
    have h'' : (s == s') = false := beq_eq_false_iff_ne.2 (by omega)
    rw [hd]
    go_enter Yba.func15, Yba.ntmps15
    go_wp2_with fail
    rw [← HW.out]
    refine S1.out.mono ?_
    rintro e W' ⟨rfl, hW'⟩
    rw [hW']
    clear hW'
    go_wp2_with fail
    refine S2.out.mono ?_
    rintro e W' ⟨rfl, hW'⟩
    rw [hW']
    clear hW'
    go_wp2_with fail
    go_ret
    exact ⟨by show Ending.returned (.bool (decide (s < s'))) = _; rw [decide_eq_false (show ¬ s < s' by omega)], HB.out⟩

set_option maxHeartbeats 2000000 in
set_option maxRecDepth 100000 in
/-- Equal, of a time with itself. -/
theorem equal_same (x : Int) (w : World) :
    Calls Yba.prog 20 #[.agg (T x), .agg (T x)] w fun e w' => e = .returned (.bool true) ∧ Below w.heap.size w w' := by
  obtain ⟨s, hs⟩ : ∃ s, s = x / 1000000000 := ⟨_, rfl⟩
  obtain ⟨r, hr⟩ : ∃ r, r = x % 1000000000 := ⟨_, rfl⟩
  have r0 : 0 ≤ r := by omega
  have r1 : r < 1073741824 := by omega
  unfold T
  rw [← hs, ← hr]
  clear hs hr
  have hm := and_two r r r0 r1 r0 r1
  obtain ⟨W, hW⟩ : ∃ W, W = (w.alloc (.cells #[.int .u64 r, .int .i64 s, .pointer none] 31)).alloc (.cells #[.int .u64 r, .int .i64 s, .pointer none] 31) := ⟨_, rfl⟩
  have ha : W.heap[w.heap.size]? = some (.cells #[.int .u64 r, .int .i64 s, .pointer none] 31 (0, 0)) := by rw [hW]; exact (Below.heap_alloc _ _ _ (by simp)).trans (heap_alloc_new w _)
  have hb : W.heap[w.heap.size + 1]? = some (.cells #[.int .u64 r, .int .i64 s, .pointer none] 31 (0, 0)) := by
    have := heap_alloc_new (w.alloc (.cells #[.int .u64 r, .int .i64 s, .pointer none] 31)) (.cells #[.int .u64 r, .int .i64 s, .pointer none] 31)
    rw [← hW, show (w.alloc (.cells #[.int .u64 r, .int .i64 s, .pointer none] 31)).heap.size = w.heap.size + 1 by simp] at this
    exact this
  have HB : Hid (Below w.heap.size w W) := by rw [hW]; exact hide (((Below.refl _ _).alloc (Nat.le_refl _) _).alloc (by simp) _)
  have S1 := hide (sec_any w.heap.size r s W r0 r1 (cell_of ha 0 _ rfl) (cell_of ha 1 _ rfl))
  have S2 := hide (sec_any (w.heap.size + 1) r s W r0 r1 (cell_of hb 0 _ rfl) (cell_of hb 1 _ rfl))
  have N1 := hide (nsec_any w.heap.size r W r0 r1 (cell_of ha 0 _ rfl))
  have N2 := hide (nsec_any (w.heap.size + 1) r W r0 r1 (cell_of hb 0 _ rfl))
  clear ha hb
  have HW := hide hW
  clear hW
  go_enter Yba.func20, Yba.ntmps20
  go_wp2_with fail
  rw [← HW.out]
  refine S1.out.mono ?_
  rintro e W' ⟨rfl, hW'⟩
  rw [hW']
  clear hW'
  go_wp2_with fail
  refine S2.out.mono ?_
  rintro e W' ⟨rfl, hW'⟩
  rw [hW']
  clear hW'
  go_wp2_with fail
  refine N1.out.mono ?_
  rintro e W' ⟨rfl, hW'⟩
  rw [hW']
  clear hW'
  go_wp2_with fail
  refine N2.out.mono ?_
  rintro e W' ⟨rfl, hW'⟩
  rw [hW']
  clear hW'
  go_wp2_with fail
  go_ret
  exact ⟨rfl, HB.out⟩
end Go.Proofs.Ybulkborg.Tm
