import Derived.Test.YbulkborgTimeSub
namespace Go.Proofs.Ybulkborg.Tm
open Go.RowKit Go

theorem least_range (x y : Int) (x0 : -9223372036854775808 ≤ x) (x1 : x ≤ 9223372036854775807) (y0 : -9223372036854775808 ≤ y) (y1 : y ≤ 9223372036854775807) : -9223372036854775808 ≤ least x y ∧ least x y ≤ 9223372036854775807 := by
  unfold least
  split <;> omega

set_option maxHeartbeats 2000000 in
set_option maxRecDepth 100000 in
theorem min_yes (x y : Int) (w : World) (x0 : -9223372036854775808 ≤ x) (x1 : x ≤ 9223372036854775807) (y0 : -9223372036854775808 ≤ y) (y1 : y ≤ 9223372036854775807) (h : y < x) :
    Calls Yba.prog 6 #[.int .i64 x, .int .i64 y] w fun e w' => e = .returned (.bool true) ∧ Below w.heap.size w w' := by
  obtain ⟨s, hs⟩ : ∃ s, x / 1000000000 = s := ⟨_, rfl⟩
  obtain ⟨r, hr⟩ : ∃ r, x % 1000000000 = r := ⟨_, rfl⟩
  obtain ⟨s', hs'⟩ : ∃ s, y / 1000000000 = s := ⟨_, rfl⟩
  obtain ⟨r', hr'⟩ : ∃ r, y % 1000000000 = r := ⟨_, rfl⟩
  have EX : T x = #[.int .u64 r, .int .i64 s, .pointer none] := by rw [T, hs, hr]
  have EY : T y = #[.int .u64 r', .int .i64 s', .pointer none] := by rw [T, hs', hr']
  have EL : least x y = y := if_pos h
  have AX := hide (fun W => at_any x W x0 x1)
  have AY := hide (fun W => at_any y W y0 y1)
  have EE := hide (fun W => earliest_any x y W)
  have SS := hide (fun W => sub_any y W y0 y1)
  simp only [EX] at AX
  simp only [EY] at AY
  simp only [EL, EX, EY] at EE
  simp only [EY] at SS
  clear hs hr hs' hr' EX EY EL
  go_enter Yba.func6, Yba.ntmps6
  go_wp2_with fail
  refine (AX.out _).mono ?_
  rintro e w1 ⟨rfl, bel1⟩
  have HB1 := hide bel1
  clear bel1
  go_wp2_with fail
  refine (AY.out _).mono ?_
  rintro e w2 ⟨rfl, bel2⟩
  have HB2 := hide (HB1.out.trans (bel2.mono HB1.out.size))
  clear bel2 HB1
  go_wp2_with fail
  refine (EE.out _).mono ?_
  rintro e w3 ⟨rfl, bel3⟩
  have HB3 := hide (HB2.out.trans (bel3.mono HB2.out.size))
  clear bel3 HB2
  go_wp2_with fail
  refine (SS.out _).mono ?_
  rintro e w4 ⟨rfl, bel4⟩
  have HB4 := hide ((HB3.out.alloc HB3.out.size _).trans (bel4.mono (by simp; have := HB3.out.size; omega)))
  clear bel4 HB3
  go_wp2
  go_ret
  exact ⟨by simp, HB4.out⟩

set_option maxHeartbeats 2000000 in
set_option maxRecDepth 100000 in
theorem min_no (x y : Int) (w : World) (x0 : -9223372036854775808 ≤ x) (x1 : x ≤ 9223372036854775807) (y0 : -9223372036854775808 ≤ y) (y1 : y ≤ 9223372036854775807) (h : ¬ y < x) :
    Calls Yba.prog 6 #[.int .i64 x, .int .i64 y] w fun e w' => e = .returned (.bool true) ∧ Below w.heap.size w w' := by
  obtain ⟨s, hs⟩ : ∃ s, x / 1000000000 = s := ⟨_, rfl⟩
  obtain ⟨r, hr⟩ : ∃ r, x % 1000000000 = r := ⟨_, rfl⟩
  obtain ⟨s', hs'⟩ : ∃ s, y / 1000000000 = s := ⟨_, rfl⟩
  obtain ⟨r', hr'⟩ : ∃ r, y % 1000000000 = r := ⟨_, rfl⟩
  have EX : T x = #[.int .u64 r, .int .i64 s, .pointer none] := by rw [T, hs, hr]
  have EY : T y = #[.int .u64 r', .int .i64 s', .pointer none] := by rw [T, hs', hr']
  have EL : least x y = x := if_neg h
  have AX := hide (fun W => at_any x W x0 x1)
  have AY := hide (fun W => at_any y W y0 y1)
  have EE := hide (fun W => earliest_any x y W)
  have SS := hide (fun W => sub_any x W x0 x1)
  simp only [EX] at AX
  simp only [EY] at AY
  simp only [EL, EX, EY] at EE
  simp only [EX] at SS
  clear hs hr hs' hr' EX EY EL
  go_enter Yba.func6, Yba.ntmps6
  go_wp2_with fail
  refine (AX.out _).mono ?_
  rintro e w1 ⟨rfl, bel1⟩
  have HB1 := hide bel1
  clear bel1
  go_wp2_with fail
  refine (AY.out _).mono ?_
  rintro e w2 ⟨rfl, bel2⟩
  have HB2 := hide (HB1.out.trans (bel2.mono HB1.out.size))
  clear bel2 HB1
  go_wp2_with fail
  refine (EE.out _).mono ?_
  rintro e w3 ⟨rfl, bel3⟩
  have HB3 := hide (HB2.out.trans (bel3.mono HB2.out.size))
  clear bel3 HB2
  go_wp2_with fail
  refine (SS.out _).mono ?_
  rintro e w4 ⟨rfl, bel4⟩
  have HB4 := hide ((HB3.out.alloc HB3.out.size _).trans (bel4.mono (by simp; have := HB3.out.size; omega)))
  clear bel4 HB3
  go_wp2
  go_ret
  exact ⟨by simp, HB4.out⟩

theorem min_any (x y : Int) (w : World) (x0 : -9223372036854775808 ≤ x) (x1 : x ≤ 9223372036854775807) (y0 : -9223372036854775808 ≤ y) (y1 : y ≤ 9223372036854775807) :
    Calls Yba.prog 6 #[.int .i64 x, .int .i64 y] w fun e w' => e = .returned (.bool true) ∧ Below w.heap.size w w' := by
  by_cases h : y < x
  · exact min_yes x y w x0 x1 y0 y1 h
  · exact min_no x y w x0 x1 y0 y1 h
end Go.Proofs.Ybulkborg.Tm
