import Derived.Test.YbulkborgTimeEarly
namespace Go.Proofs.Ybulkborg.Tm
open Go.RowKit Go

/-- Nil pointers of a location are equal. -/
@[go_sem] theorem run_loc_nil (w : World) (d : Nat) : (Op.equalIn (d + 1) 29 (.pointer none) (.pointer none)).run Yba.prog w = .ok true w := by
  simp [Op.equalIn, run_underlying Yba.underlying29]


set_option maxHeartbeats 2000000 in
set_option maxRecDepth 100000 in
theorem pick_yes (x y : Int) (w : World) (x0 : -9223372036854775808 ≤ x) (x1 : x ≤ 9223372036854775807) (y0 : -9223372036854775808 ≤ y) (y1 : y ≤ 9223372036854775807) (h : y < x) :
    Calls Yba.prog 5 #[.int .i64 x, .int .i64 y] w fun e w' => e = .returned (.bool true) ∧ Below w.heap.size w w' := by
  obtain ⟨s, hs⟩ : ∃ s, x / 1000000000 = s := ⟨_, rfl⟩
  obtain ⟨r, hr⟩ : ∃ r, x % 1000000000 = r := ⟨_, rfl⟩
  obtain ⟨s', hs'⟩ : ∃ s, y / 1000000000 = s := ⟨_, rfl⟩
  obtain ⟨r', hr'⟩ : ∃ r, y % 1000000000 = r := ⟨_, rfl⟩
  have EX : T x = #[.int .u64 r, .int .i64 s, .pointer none] := by rw [T, hs, hr]
  have EY : T y = #[.int .u64 r', .int .i64 s', .pointer none] := by rw [T, hs', hr']
  have EL : least x y = y := if_pos h
  have AX := hide (fun W => at_any x W x0 x1)
  have AY := hide (fun W => at_any y W y0 y1)
  have EE := hide (fun W => earliest_any x y W)
  simp only [EX] at AX
  simp only [EY] at AY
  simp only [EL, EX, EY] at EE
  clear hs hr hs' hr' EX EY EL
  have hG : Yba.prog.eqGuardType Yba.prog.depth 31 = false := by kernel_rfl
  have hS : Yba.prog.stoodInHeld 31 = false := by kernel_rfl
  go_enter Yba.func5, Yba.ntmps5
  go_wp2_with fail
  refine (AX.out _).mono ?_
  rintro e w1 ⟨rfl, bel1⟩
  have HB1 := hide bel1
  clear bel1
  go_wp2_with fail
  refine (AY.out _).mono ?_
  rintro e w2 ⟨rfl, bel2⟩
  have hA2 : w2.heap[w1.heap.size]? = some (.cells #[.int .u64 r, .int .i64 s, .pointer none] 31 (0, 0)) := (bel2.block _ (by simp)).trans (heap_alloc_new w1 _)
  have HB2 := hide ((HB1.out.alloc HB1.out.size _).trans (bel2.mono (by simp; have := HB1.out.size; omega)))
  have HA2 := hide hA2
  clear bel2 hA2 HB1
  generalize w1.heap.size = A at *
  have HA : Hid ((w2.alloc (.cells #[.int .u64 r', .int .i64 s', .pointer none] 31)).heap[A]? = some (.cells #[.int .u64 r, .int .i64 s, .pointer none] 31 (0, 0))) := hide ((Below.heap_alloc _ _ _ (lt_of_block HA2.out)).trans HA2.out)
  have HB : Hid ((w2.alloc (.cells #[.int .u64 r', .int .i64 s', .pointer none] 31)).heap[w2.heap.size]? = some (.cells #[.int .u64 r', .int .i64 s', .pointer none] 31 (0, 0))) := hide (heap_alloc_new w2 _)
  have HBW : Hid (Below w.heap.size w (w2.alloc (.cells #[.int .u64 r', .int .i64 s', .pointer none] 31))) := hide (HB2.out.alloc HB2.out.size _)
  have hAlt : A < w2.heap.size := lt_of_block HA2.out
  have c0 : w2.cell? ⟨A, 0, none⟩ = some (.int .u64 r) := cell_of HA2.out 0 _ rfl
  have c1 : w2.cell? ⟨A, 1, none⟩ = some (.int .i64 s) := cell_of HA2.out 1 _ rfl
  have c2 : w2.cell? ⟨A, 2, none⟩ = some (.pointer none) := cell_of HA2.out 2 _ rfl
  have c0' : (w2.alloc (.cells #[.int .u64 r', .int .i64 s', .pointer none] 31)).cell? ⟨A, 0, none⟩ = some (.int .u64 r) := cell_of HA.out 0 _ rfl
  have c1' : (w2.alloc (.cells #[.int .u64 r', .int .i64 s', .pointer none] 31)).cell? ⟨A, 1, none⟩ = some (.int .i64 s) := cell_of HA.out 1 _ rfl
  have c2' : (w2.alloc (.cells #[.int .u64 r', .int .i64 s', .pointer none] 31)).cell? ⟨A, 2, none⟩ = some (.pointer none) := cell_of HA.out 2 _ rfl
  clear HB2 HA2
  go_wp2_with fail
  refine (EE.out _).mono ?_
  rintro e w3 ⟨rfl, bel3⟩
  have hA3 : w3.heap[A]? = some (.cells #[.int .u64 r, .int .i64 s, .pointer none] 31 (0, 0)) := (bel3.block _ (lt_of_block HA.out)).trans HA.out
  have hB3 : w3.heap[w2.heap.size]? = some (.cells #[.int .u64 r', .int .i64 s', .pointer none] 31 (0, 0)) := (bel3.block _ (lt_of_block HB.out)).trans HB.out
  have HB3 := hide (HBW.out.trans (bel3.mono HBW.out.size))
  clear bel3 HA HB HBW c0 c1 c2 c0' c1' c2' hAlt AX AY EE
  generalize w2.heap.size = B at *
  have hAlt : A < w3.heap.size := lt_of_block hA3
  have hBlt : B < w3.heap.size := lt_of_block hB3
  have HA := hide ((Below.heap_alloc w3 (.cells #[.int .u64 r', .int .i64 s', .pointer none] 31) _ hAlt).trans hA3)
  have HB := hide ((Below.heap_alloc w3 (.cells #[.int .u64 r', .int .i64 s', .pointer none] 31) _ hBlt).trans hB3)
  have c0 : w3.cell? ⟨A, 0, none⟩ = some (.int .u64 r) := cell_of hA3 0 _ rfl
  have c1 : w3.cell? ⟨A, 1, none⟩ = some (.int .i64 s) := cell_of hA3 1 _ rfl
  have c2 : w3.cell? ⟨A, 2, none⟩ = some (.pointer none) := cell_of hA3 2 _ rfl
  have b0 : w3.cell? ⟨B, 0, none⟩ = some (.int .u64 r') := cell_of hB3 0 _ rfl
  have b1 : w3.cell? ⟨B, 1, none⟩ = some (.int .i64 s') := cell_of hB3 1 _ rfl
  have b2 : w3.cell? ⟨B, 2, none⟩ = some (.pointer none) := cell_of hB3 2 _ rfl
  have c0' : (w3.alloc (.cells #[.int .u64 r', .int .i64 s', .pointer none] 31)).cell? ⟨A, 0, none⟩ = some (.int .u64 r) := cell_of HA.out 0 _ rfl
  have c1' : (w3.alloc (.cells #[.int .u64 r', .int .i64 s', .pointer none] 31)).cell? ⟨A, 1, none⟩ = some (.int .i64 s) := cell_of HA.out 1 _ rfl
  have c2' : (w3.alloc (.cells #[.int .u64 r', .int .i64 s', .pointer none] 31)).cell? ⟨A, 2, none⟩ = some (.pointer none) := cell_of HA.out 2 _ rfl
  have b0' : (w3.alloc (.cells #[.int .u64 r', .int .i64 s', .pointer none] 31)).cell? ⟨B, 0, none⟩ = some (.int .u64 r') := cell_of HB.out 0 _ rfl
  have b1' : (w3.alloc (.cells #[.int .u64 r', .int .i64 s', .pointer none] 31)).cell? ⟨B, 1, none⟩ = some (.int .i64 s') := cell_of HB.out 1 _ rfl
  have b2' : (w3.alloc (.cells #[.int .u64 r', .int .i64 s', .pointer none] 31)).cell? ⟨B, 2, none⟩ = some (.pointer none) := cell_of HB.out 2 _ rfl
  clear hA3 hB3 HA HB
  go_wp2
  go_ret
  exact ⟨rfl, HB3.out.alloc HB3.out.size _⟩

set_option maxHeartbeats 2000000 in
set_option maxRecDepth 100000 in
theorem pick_no (x y : Int) (w : World) (x0 : -9223372036854775808 ≤ x) (x1 : x ≤ 9223372036854775807) (y0 : -9223372036854775808 ≤ y) (y1 : y ≤ 9223372036854775807) (h : ¬ y < x) :
    Calls Yba.prog 5 #[.int .i64 x, .int .i64 y] w fun e w' => e = .returned (.bool true) ∧ Below w.heap.size w w' := by
  obtain ⟨s, hs⟩ : ∃ s, x / 1000000000 = s := ⟨_, rfl⟩
  obtain ⟨r, hr⟩ : ∃ r, x % 1000000000 = r := ⟨_, rfl⟩
  obtain ⟨s', hs'⟩ : ∃ s, y / 1000000000 = s := ⟨_, rfl⟩
  obtain ⟨r', hr'⟩ : ∃ r, y % 1000000000 = r := ⟨_, rfl⟩
  have EX : T x = #[.int .u64 r, .int .i64 s, .pointer none] := by rw [T, hs, hr]
  have EY : T y = #[.int .u64 r', .int .i64 s', .pointer none] := by rw [T, hs', hr']
  have EL : least x y = x := if_neg h
  have AX := hide (fun W => at_any x W x0 x1)
  have AY := hide (fun W => at_any y W y0 y1)
  have EE := hide (fun W => earliest_any x y W)
  simp only [EX] at AX
  simp only [EY] at AY
  simp only [EL, EX, EY] at EE
  clear hs hr hs' hr' EX EY EL
  have hG : Yba.prog.eqGuardType Yba.prog.depth 31 = false := by kernel_rfl
  have hS : Yba.prog.stoodInHeld 31 = false := by kernel_rfl
  go_enter Yba.func5, Yba.ntmps5
  go_wp2_with fail
  refine (AX.out _).mono ?_
  rintro e w1 ⟨rfl, bel1⟩
  have HB1 := hide bel1
  clear bel1
  go_wp2_with fail
  refine (AY.out _).mono ?_
  rintro e w2 ⟨rfl, bel2⟩
  have hA2 : w2.heap[w1.heap.size]? = some (.cells #[.int .u64 r, .int .i64 s, .pointer none] 31 (0, 0)) := (bel2.block _ (by simp)).trans (heap_alloc_new w1 _)
  have HB2 := hide ((HB1.out.alloc HB1.out.size _).trans (bel2.mono (by simp; have := HB1.out.size; omega)))
  have HA2 := hide hA2
  clear bel2 hA2 HB1
  generalize w1.heap.size = A at *
  have HA : Hid ((w2.alloc (.cells #[.int .u64 r', .int .i64 s', .pointer none] 31)).heap[A]? = some (.cells #[.int .u64 r, .int .i64 s, .pointer none] 31 (0, 0))) := hide ((Below.heap_alloc _ _ _ (lt_of_block HA2.out)).trans HA2.out)
  have HB : Hid ((w2.alloc (.cells #[.int .u64 r', .int .i64 s', .pointer none] 31)).heap[w2.heap.size]? = some (.cells #[.int .u64 r', .int .i64 s', .pointer none] 31 (0, 0))) := hide (heap_alloc_new w2 _)
  have HBW : Hid (Below w.heap.size w (w2.alloc (.cells #[.int .u64 r', .int .i64 s', .pointer none] 31))) := hide (HB2.out.alloc HB2.out.size _)
  have hAlt : A < w2.heap.size := lt_of_block HA2.out
  have c0 : w2.cell? ⟨A, 0, none⟩ = some (.int .u64 r) := cell_of HA2.out 0 _ rfl
  have c1 : w2.cell? ⟨A, 1, none⟩ = some (.int .i64 s) := cell_of HA2.out 1 _ rfl
  have c2 : w2.cell? ⟨A, 2, none⟩ = some (.pointer none) := cell_of HA2.out 2 _ rfl
  have c0' : (w2.alloc (.cells #[.int .u64 r', .int .i64 s', .pointer none] 31)).cell? ⟨A, 0, none⟩ = some (.int .u64 r) := cell_of HA.out 0 _ rfl
  have c1' : (w2.alloc (.cells #[.int .u64 r', .int .i64 s', .pointer none] 31)).cell? ⟨A, 1, none⟩ = some (.int .i64 s) := cell_of HA.out 1 _ rfl
  have c2' : (w2.alloc (.cells #[.int .u64 r', .int .i64 s', .pointer none] 31)).cell? ⟨A, 2, none⟩ = some (.pointer none) := cell_of HA.out 2 _ rfl
  clear HB2 HA2
  go_wp2_with fail
  refine (EE.out _).mono ?_
  rintro e w3 ⟨rfl, bel3⟩
  have hA3 : w3.heap[A]? = some (.cells #[.int .u64 r, .int .i64 s, .pointer none] 31 (0, 0)) := (bel3.block _ (lt_of_block HA.out)).trans HA.out
  have hB3 : w3.heap[w2.heap.size]? = some (.cells #[.int .u64 r', .int .i64 s', .pointer none] 31 (0, 0)) := (bel3.block _ (lt_of_block HB.out)).trans HB.out
  have HB3 := hide (HBW.out.trans (bel3.mono HBW.out.size))
  clear bel3 HA HB HBW c0 c1 c2 c0' c1' c2' hAlt AX AY EE
  generalize w2.heap.size = B at *
  have hAlt : A < w3.heap.size := lt_of_block hA3
  have hBlt : B < w3.heap.size := lt_of_block hB3
  have HA := hide ((Below.heap_alloc w3 (.cells #[.int .u64 r, .int .i64 s, .pointer none] 31) _ hAlt).trans hA3)
  have HB := hide ((Below.heap_alloc w3 (.cells #[.int .u64 r, .int .i64 s, .pointer none] 31) _ hBlt).trans hB3)
  have c0 : w3.cell? ⟨A, 0, none⟩ = some (.int .u64 r) := cell_of hA3 0 _ rfl
  have c1 : w3.cell? ⟨A, 1, none⟩ = some (.int .i64 s) := cell_of hA3 1 _ rfl
  have c2 : w3.cell? ⟨A, 2, none⟩ = some (.pointer none) := cell_of hA3 2 _ rfl
  have b0 : w3.cell? ⟨B, 0, none⟩ = some (.int .u64 r') := cell_of hB3 0 _ rfl
  have b1 : w3.cell? ⟨B, 1, none⟩ = some (.int .i64 s') := cell_of hB3 1 _ rfl
  have b2 : w3.cell? ⟨B, 2, none⟩ = some (.pointer none) := cell_of hB3 2 _ rfl
  have c0' : (w3.alloc (.cells #[.int .u64 r, .int .i64 s, .pointer none] 31)).cell? ⟨A, 0, none⟩ = some (.int .u64 r) := cell_of HA.out 0 _ rfl
  have c1' : (w3.alloc (.cells #[.int .u64 r, .int .i64 s, .pointer none] 31)).cell? ⟨A, 1, none⟩ = some (.int .i64 s) := cell_of HA.out 1 _ rfl
  have c2' : (w3.alloc (.cells #[.int .u64 r, .int .i64 s, .pointer none] 31)).cell? ⟨A, 2, none⟩ = some (.pointer none) := cell_of HA.out 2 _ rfl
  have b0' : (w3.alloc (.cells #[.int .u64 r, .int .i64 s, .pointer none] 31)).cell? ⟨B, 0, none⟩ = some (.int .u64 r') := cell_of HB.out 0 _ rfl
  have b1' : (w3.alloc (.cells #[.int .u64 r, .int .i64 s, .pointer none] 31)).cell? ⟨B, 1, none⟩ = some (.int .i64 s') := cell_of HB.out 1 _ rfl
  have b2' : (w3.alloc (.cells #[.int .u64 r, .int .i64 s, .pointer none] 31)).cell? ⟨B, 2, none⟩ = some (.pointer none) := cell_of HB.out 2 _ rfl
  clear hA3 hB3 HA HB
  go_wp2
  go_ret
  exact ⟨rfl, HB3.out.alloc HB3.out.size _⟩

theorem pick_any (x y : Int) (w : World) (x0 : -9223372036854775808 ≤ x) (x1 : x ≤ 9223372036854775807) (y0 : -9223372036854775808 ≤ y) (y1 : y ≤ 9223372036854775807) :
    Calls Yba.prog 5 #[.int .i64 x, .int .i64 y] w fun e w' => e = .returned (.bool true) ∧ Below w.heap.size w w' := by
  by_cases h : y < x
  · exact pick_yes x y w x0 x1 y0 y1 h
  · exact pick_no x y w x0 x1 y0 y1 h
end Go.Proofs.Ybulkborg.Tm
