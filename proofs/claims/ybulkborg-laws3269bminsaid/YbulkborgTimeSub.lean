import Derived.Test.YbulkborgTimeEarly
import Derived.Deep.RegionWith
namespace Go.Proofs.Ybulkborg.Tm
open Go.RowKit Go

set_option maxHeartbeats 2000000 in
set_option maxRecDepth 100000 in
/-- Sub: the time that lies n nanoseconds from the zero time, less the zero time. -/
theorem sub_any (n : Int) (w : World) (h0 : -9223372036854775808 ≤ n) (h1 : n ≤ 9223372036854775807) :
    Calls Yba.prog 12 #[.agg (T n), .agg #[.int .u64 0, .int .i64 0, .pointer none]] w fun e w' => e = .returned (.int .i64 n) ∧ Below w.heap.size w w' := by
  obtain ⟨s, hs⟩ : ∃ s, n / 1000000000 = s := ⟨_, rfl⟩
  obtain ⟨r, hr⟩ : ∃ r, n % 1000000000 = r := ⟨_, rfl⟩
  have r0 : 0 ≤ r := by omega
  have r1 : r < 1000000000 := by omega
  have r1' : r < 1073741824 := by omega
  have s0 : -9223372037 ≤ s := by omega
  have s1 : s ≤ 9223372036 := by omega
  have ET : T n = #[.int .u64 r, .int .i64 s, .pointer none] := by rw [T, hs, hr]
  have HN := hide (show s * 1000000000 + r = n by omega)
  have H14 := hide (fun W => add_zero n W h0 h1)
  have H20 := hide (fun W => equal_same n W)
  simp only [ET] at H14 H20 ⊢
  have hm := and_two r 0 r0 r1' (by decide) (by decide)
  obtain ⟨W, hW⟩ : ∃ W, W = (w.alloc (.cells #[.int .u64 r, .int .i64 s, .pointer none] 31)).alloc (.cells #[.int .u64 0, .int .i64 0, .pointer none] 31) := ⟨_, rfl⟩
  have ha : W.heap[w.heap.size]? = some (.cells #[.int .u64 r, .int .i64 s, .pointer none] 31 (0, 0)) := by rw [hW]; exact (Below.heap_alloc _ _ _ (by simp)).trans (heap_alloc_new w _)
  have hb : W.heap[w.heap.size + 1]? = some (.cells #[.int .u64 0, .int .i64 0, .pointer none] 31 (0, 0)) := by
    have := heap_alloc_new (w.alloc (.cells #[.int .u64 r, .int .i64 s, .pointer none] 31)) (.cells #[.int .u64 0, .int .i64 0, .pointer none] 31)
    rw [← hW, show (w.alloc (.cells #[.int .u64 r, .int .i64 s, .pointer none] 31)).heap.size = w.heap.size + 1 by simp] at this
    exact this
  have HB : Hid (Below w.heap.size w W) := by rw [hW]; exact hide (((Below.refl _ _).alloc (Nat.le_refl _) _).alloc (by simp) _)
  have S1 := hide (sec_any w.heap.size r s W r0 r1' (cell_of ha 0 _ rfl) (cell_of ha 1 _ rfl))
  have S2 := hide (sec_any (w.heap.size + 1) 0 0 W (by decide) (by decide) (cell_of hb 0 _ rfl) (cell_of hb 1 _ rfl))
  have N1 := hide (nsec_any w.heap.size r W r0 r1' (cell_of ha 0 _ rfl))
  have N2 := hide (nsec_any (w.heap.size + 1) 0 W (by decide) (by decide) (cell_of hb 0 _ rfl))
  have HA := hide ha
  have HB' := hide hb
  have HW := hide hW
  clear ha hb hW ET hs hr
  go_enter Yba.func12, Yba.ntmps12
  go_wp2_with fail
  rw [← HW.out]
  refine S1.out.mono ?_
  rintro e W' ⟨rfl, hW'⟩
  rw [hW']
  clear hW'
  go_wp2_with fail
  refine S2.out.mono ?_
  rintro e W' ⟨rfl, hW'⟩
  rw [hW']
  clear hW'
  go_wp2_with fail
  refine N1.out.mono ?_
  rintro e W' ⟨rfl, hW'⟩
  rw [hW']
  clear hW'
  go_wp2_with fail
  refine N2.out.mono ?_
  rintro e W' ⟨rfl, hW'⟩
  rw [hW']
  clear hW' S1 S2 N1 N2
  go_wp2_with fail
  have hd : wrap64 (wrap64 (s * 1000000000) + r) = n := by
    have := HN.out
    unfold wrap64
    omega
  rw [hd]
  clear hd HW
  have c0 : W.cell? ⟨w.heap.size, 0, none⟩ = some (.int .u64 r) := cell_of HA.out 0 _ rfl
  have c1 : W.cell? ⟨w.heap.size, 1, none⟩ = some (.int .i64 s) := cell_of HA.out 1 _ rfl
  have c2 : W.cell? ⟨w.heap.size, 2, none⟩ = some (.pointer none) := cell_of HA.out 2 _ rfl
  have b0 : W.cell? ⟨w.heap.size + 1, 0, none⟩ = some (.int .u64 0) := cell_of HB'.out 0 _ rfl
  have b1 : W.cell? ⟨w.heap.size + 1, 1, none⟩ = some (.int .i64 0) := cell_of HB'.out 1 _ rfl
  have b2 : W.cell? ⟨w.heap.size + 1, 2, none⟩ = some (.pointer none) := cell_of HB'.out 2 _ rfl
  have hlt : w.heap.size < W.heap.size := lt_of_block HA.out
  go_region_with (first
    | (go_at_call 14
       refine (H14.out _).mono ?_
       rintro e w3 ⟨rfl, bel3⟩
       have g3 : w3.heap[w.heap.size]? = some (.cells #[.int .u64 r, .int .i64 s, .pointer none] 31 (0, 0)) := (bel3.block _ (by exact hlt)).trans (by exact HA.out)
       have v0 : w3.cell? ⟨w.heap.size, 0, none⟩ = some (.int .u64 r) := cell_of g3 0 _ rfl
       have v1 : w3.cell? ⟨w.heap.size, 1, none⟩ = some (.int .i64 s) := cell_of g3 1 _ rfl
       have v2 : w3.cell? ⟨w.heap.size, 2, none⟩ = some (.pointer none) := cell_of g3 2 _ rfl
       have HB3 := hide ((HB.out.trans (show Below w.heap.size W W.drew from ⟨rfl, rfl, rfl, Nat.le_refl _, fun _ _ => rfl⟩)).trans (bel3.mono (by exact HB.out.size)))
       clear g3 bel3)
    | (go_at_call 20
       refine (H20.out _).mono ?_
       rintro e w4 ⟨rfl, bel4⟩
       have HB4 := hide (HB3.out.trans (bel4.mono HB3.out.size))
       clear bel4))
  all_goals
    go_wp2
    go_ret
    exact ⟨rfl, HB4.out⟩
end Go.Proofs.Ybulkborg.Tm
