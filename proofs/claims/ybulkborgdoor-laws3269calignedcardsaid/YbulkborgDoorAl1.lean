import Derived.Test.YbulkborgDoorPt
namespace Go.Proofs.YbulkborgDoor.Em
open Go.RowKit Go

set_option maxHeartbeats 4000000
set_option maxRecDepth 100000

/-- The case 2: the length 48. -/
theorem aligned2 (b : Nat → Int) (k : Int) (z4 z6 : Option Addr) (w : World) (hb : ∀ i, By (b i)) (hk : By k) (hz4 : w.cell? ⟨1, 0, none⟩ = some (.pointer z4)) (hz6 : w.cell? ⟨0, 0, none⟩ = some (.pointer z6)) (h1 : 1 < w.heap.size) (hm : k % 6 = 2) :
    Calls Ybad.prog 4 #[.agg (b16 b), .int .u8 k] w fun e w' => e = .returned (.bool true) ∧ Below w.heap.size w w' := by
  unfold By at hk
  have HB := hide hb
  clear hb
  have h0 : 0 < w.heap.size := by omega
  have bel0 : Below w.heap.size w (((w.alloc (.cells (b16 b) 22)).alloc (.cells #[.int .i64 32, .int .i64 40, .int .i64 48, .int .i64 56, .int .i64 64, .int .i64 96] 37)).alloc (.cells #[.int .u8 (b 6), .int .u8 (b 7), .int .u8 (b 9), .int .u8 (b 10)] 34)) := (((Below.refl _ _).alloc (Nat.le_refl _) _).alloc (by simp) _).alloc (by simp; omega) _
  have q0 : (((w.alloc (.cells (b16 b) 22)).alloc (.cells #[.int .i64 32, .int .i64 40, .int .i64 48, .int .i64 56, .int .i64 64, .int .i64 96] 37)).alloc (.cells #[.int .u8 (b 6), .int .u8 (b 7), .int .u8 (b 9), .int .u8 (b 10)] 34)).heap[w.heap.size + 2]? = some (.cells #[.int .u8 (b 6), .int .u8 (b 7), .int .u8 (b 9), .int .u8 (b 10)] 34 (0, 0)) := by
    have := heap_alloc_new ((w.alloc (.cells (b16 b) 22)).alloc (.cells #[.int .i64 32, .int .i64 40, .int .i64 48, .int .i64 56, .int .i64 64, .int .i64 96] 37)) (.cells #[.int .u8 (b 6), .int .u8 (b 7), .int .u8 (b 9), .int .u8 (b 10)] 34)
    rw [show ((w.alloc (.cells (b16 b) 22)).alloc (.cells #[.int .i64 32, .int .i64 40, .int .i64 48, .int .i64 56, .int .i64 64, .int .i64 96] 37)).heap.size = w.heap.size + 2 by simp] at this
    exact this
  have H0 := hide (from16_any b z6 _ HB.out ((bel0.cell (by exact h0)).trans hz6) (by simp))
  have HQ0 := hide q0
  have HB0 := hide bel0
  clear bel0 q0
  go_enter Ybad.func4, Ybad.ntmps4
  go_wp2_with fail
  refine H0.out.mono ?_
  rintro e w1 ⟨rfl, bel1⟩
  have hq1 : w1.heap[w.heap.size + 2]? = some (.cells #[.int .u8 (b 6), .int .u8 (b 7), .int .u8 (b 9), .int .u8 (b 10)] 34 (0, 0)) := (bel1.block _ (by simp)).trans HQ0.out
  have bel : Below w.heap.size w w1 := HB0.out.trans (bel1.mono HB0.out.size)
  clear bel1 H0 HQ0 HB0
  have H5 : Hid (Calls Ybad.prog 5 #[.agg #[.int .u64 (hi b), .int .u64 (lo b), .pointer z6], .int .i64 48] w1 fun e w' => e = .returned (.agg #[.int .u64 0, .int .u64 (v4 (b 6) (b 7) (b 9) (b 10)), .pointer z4]) ∧ Below w1.heap.size w1 w') :=
    hide (emb_any b 48 6 z4 (.pointer z6) w1 HB.out (by decide) (by decide) (by decide) ((bel.cell (by exact h1)).trans hz4) (by have := bel.size; omega))
  have HBl := hide bel
  have HQ1 := hide hq1
  clear hq1 bel hz6 hm hk
  go_wp2_with fail
  refine H5.out.mono ?_
  rintro e w2 ⟨rfl, bel2⟩
  clear H5
  generalize hv : v4 (b 6) (b 7) (b 9) (b 10) = v
  have HV := hide hv
  clear hv
  have HBA := hide (HBl.out.trans (bel2.mono HBl.out.size))
  have HQA := hide ((bel2.block _ (lt_of_block HQ1.out)).trans HQ1.out)
  clear HQ1 HBl bel2
  go_wp2_with fail
  obtain ⟨W, hW⟩ : ∃ W, W = w2.alloc (.cells #[.int .u64 0, .int .u64 v, .pointer z4] 30) := ⟨_, rfl⟩
  rw [← hW]
  have belW : Below w.heap.size w W := by rw [hW]; exact HBA.out.alloc HBA.out.size _
  have hqW : W.heap[w.heap.size + 2]? = some (.cells #[.int .u8 (b 6), .int .u8 (b 7), .int .u8 (b 9), .int .u8 (b 10)] 34 (0, 0)) := by rw [hW]; exact (Below.heap_alloc _ _ _ (lt_of_block HQA.out)).trans HQA.out
  have hcW : W.heap[w2.heap.size]? = some (.cells #[.int .u64 0, .int .u64 v, .pointer z4] 30 (0, 0)) := by rw [hW]; exact heap_alloc_new w2 _
  have hzW : W.cell? ⟨1, 0, none⟩ = some (.pointer z4) := (belW.cell (by exact h1)).trans hz4
  generalize w2.heap.size = B at *
  clear hW HBA HQA
  have hBlt : B < W.heap.size := lt_of_block hcW
  have x0 : W.cell? ⟨w.heap.size + 2, 0, none⟩ = some (.int .u8 (b 6)) := cell_of hqW 0 _ rfl
  have x1 : W.cell? ⟨w.heap.size + 2, 1, none⟩ = some (.int .u8 (b 7)) := cell_of hqW 1 _ rfl
  have x2 : W.cell? ⟨w.heap.size + 2, 2, none⟩ = some (.int .u8 (b 9)) := cell_of hqW 2 _ rfl
  have x3 : W.cell? ⟨w.heap.size + 2, 3, none⟩ = some (.int .u8 (b 10)) := cell_of hqW 3 _ rfl
  have y0 : W.cell? ⟨B, 0, none⟩ = some (.int .u64 0) := cell_of hcW 0 _ rfl
  have y1 : W.cell? ⟨B, 1, none⟩ = some (.int .u64 v) := cell_of hcW 1 _ rfl
  have y2 : W.cell? ⟨B, 2, none⟩ = some (.pointer z4) := cell_of hcW 2 _ rfl
  have h1W : 1 < W.heap.size := Nat.lt_of_lt_of_le h1 belW.size
  have HC := hide hcW
  have HZ := hide hzW
  have HW := hide belW
  clear hcW hqW hzW belW hz4
  have hG : Ybad.prog.eqGuardType Ybad.prog.depth 30 = false := by kernel_rfl
  have hS : Ybad.prog.stoodInHeld 30 = false := by kernel_rfl
  go_region_with (
       go_at_call 7
       refine (from4_any (b 6) (b 7) (b 9) (b 10) z4 _ (HB.out _) (HB.out _) (HB.out _) (HB.out _) (by exact HZ.out) (by exact h1W)).mono ?_
       rintro e w4 ⟨rfl, bel4⟩
       rw [HV.out]
       have g4 : w4.heap[B]? = some (.cells #[.int .u64 0, .int .u64 v, .pointer z4] 30 (0, 0)) := (bel4.block B (by exact hBlt)).trans (by exact HC.out)
       have u0 : w4.cell? ⟨B, 0, none⟩ = some (.int .u64 0) := cell_of g4 0 _ rfl
       have u1 : w4.cell? ⟨B, 1, none⟩ = some (.int .u64 v) := cell_of g4 1 _ rfl
       have u2 : w4.cell? ⟨B, 2, none⟩ = some (.pointer z4) := cell_of g4 2 _ rfl
       have HW4 := hide ((HW.out.trans (show Below w.heap.size W W.drew from ⟨rfl, rfl, rfl, Nat.le_refl _, fun _ _ => rfl⟩)).trans (bel4.mono (by exact HW.out.size)))
       clear g4 bel4)
  all_goals
    go_wp2
    exact bodyPost_ret (v := .bool true) (by simp [results, Ybad.results4, go_sem]) rfl ⟨rfl, HW4.out⟩

/-- The case 3: the length 56. -/
theorem aligned3 (b : Nat → Int) (k : Int) (z4 z6 : Option Addr) (w : World) (hb : ∀ i, By (b i)) (hk : By k) (hz4 : w.cell? ⟨1, 0, none⟩ = some (.pointer z4)) (hz6 : w.cell? ⟨0, 0, none⟩ = some (.pointer z6)) (h1 : 1 < w.heap.size) (hm : k % 6 = 3) :
    Calls Ybad.prog 4 #[.agg (b16 b), .int .u8 k] w fun e w' => e = .returned (.bool true) ∧ Below w.heap.size w w' := by
  unfold By at hk
  have HB := hide hb
  clear hb
  have h0 : 0 < w.heap.size := by omega
  have bel0 : Below w.heap.size w (((w.alloc (.cells (b16 b) 22)).alloc (.cells #[.int .i64 32, .int .i64 40, .int .i64 48, .int .i64 56, .int .i64 64, .int .i64 96] 37)).alloc (.cells #[.int .u8 (b 7), .int .u8 (b 9), .int .u8 (b 10), .int .u8 (b 11)] 34)) := (((Below.refl _ _).alloc (Nat.le_refl _) _).alloc (by simp) _).alloc (by simp; omega) _
  have q0 : (((w.alloc (.cells (b16 b) 22)).alloc (.cells #[.int .i64 32, .int .i64 40, .int .i64 48, .int .i64 56, .int .i64 64, .int .i64 96] 37)).alloc (.cells #[.int .u8 (b 7), .int .u8 (b 9), .int .u8 (b 10), .int .u8 (b 11)] 34)).heap[w.heap.size + 2]? = some (.cells #[.int .u8 (b 7), .int .u8 (b 9), .int .u8 (b 10), .int .u8 (b 11)] 34 (0, 0)) := by
    have := heap_alloc_new ((w.alloc (.cells (b16 b) 22)).alloc (.cells #[.int .i64 32, .int .i64 40, .int .i64 48, .int .i64 56, .int .i64 64, .int .i64 96] 37)) (.cells #[.int .u8 (b 7), .int .u8 (b 9), .int .u8 (b 10), .int .u8 (b 11)] 34)
    rw [show ((w.alloc (.cells (b16 b) 22)).alloc (.cells #[.int .i64 32, .int .i64 40, .int .i64 48, .int .i64 56, .int .i64 64, .int .i64 96] 37)).heap.size = w.heap.size + 2 by simp] at this
    exact this
  have H0 := hide (from16_any b z6 _ HB.out ((bel0.cell (by exact h0)).trans hz6) (by simp))
  have HQ0 := hide q0
  have HB0 := hide bel0
  clear bel0 q0
  go_enter Ybad.func4, Ybad.ntmps4
  go_wp2_with fail
  refine H0.out.mono ?_
  rintro e w1 ⟨rfl, bel1⟩
  have hq1 : w1.heap[w.heap.size + 2]? = some (.cells #[.int .u8 (b 7), .int .u8 (b 9), .int .u8 (b 10), .int .u8 (b 11)] 34 (0, 0)) := (bel1.block _ (by simp)).trans HQ0.out
  have bel : Below w.heap.size w w1 := HB0.out.trans (bel1.mono HB0.out.size)
  clear bel1 H0 HQ0 HB0
  have H5 : Hid (Calls Ybad.prog 5 #[.agg #[.int .u64 (hi b), .int .u64 (lo b), .pointer z6], .int .i64 56] w1 fun e w' => e = .returned (.agg #[.int .u64 0, .int .u64 (v4 (b 7) (b 9) (b 10) (b 11)), .pointer z4]) ∧ Below w1.heap.size w1 w') :=
    hide (emb_any b 56 7 z4 (.pointer z6) w1 HB.out (by decide) (by decide) (by decide) ((bel.cell (by exact h1)).trans hz4) (by have := bel.size; omega))
  have HBl := hide bel
  have HQ1 := hide hq1
  clear hq1 bel hz6 hm hk
  go_wp2_with fail
  refine H5.out.mono ?_
  rintro e w2 ⟨rfl, bel2⟩
  clear H5
  generalize hv : v4 (b 7) (b 9) (b 10) (b 11) = v
  have HV := hide hv
  clear hv
  have HBA := hide (HBl.out.trans (bel2.mono HBl.out.size))
  have HQA := hide ((bel2.block _ (lt_of_block HQ1.out)).trans HQ1.out)
  clear HQ1 HBl bel2
  go_wp2_with fail
  obtain ⟨W, hW⟩ : ∃ W, W = w2.alloc (.cells #[.int .u64 0, .int .u64 v, .pointer z4] 30) := ⟨_, rfl⟩
  rw [← hW]
  have belW : Below w.heap.size w W := by rw [hW]; exact HBA.out.alloc HBA.out.size _
  have hqW : W.heap[w.heap.size + 2]? = some (.cells #[.int .u8 (b 7), .int .u8 (b 9), .int .u8 (b 10), .int .u8 (b 11)] 34 (0, 0)) := by rw [hW]; exact (Below.heap_alloc _ _ _ (lt_of_block HQA.out)).trans HQA.out
  have hcW : W.heap[w2.heap.size]? = some (.cells #[.int .u64 0, .int .u64 v, .pointer z4] 30 (0, 0)) := by rw [hW]; exact heap_alloc_new w2 _
  have hzW : W.cell? ⟨1, 0, none⟩ = some (.pointer z4) := (belW.cell (by exact h1)).trans hz4
  generalize w2.heap.size = B at *
  clear hW HBA HQA
  have hBlt : B < W.heap.size := lt_of_block hcW
  have x0 : W.cell? ⟨w.heap.size + 2, 0, none⟩ = some (.int .u8 (b 7)) := cell_of hqW 0 _ rfl
  have x1 : W.cell? ⟨w.heap.size + 2, 1, none⟩ = some (.int .u8 (b 9)) := cell_of hqW 1 _ rfl
  have x2 : W.cell? ⟨w.heap.size + 2, 2, none⟩ = some (.int .u8 (b 10)) := cell_of hqW 2 _ rfl
  have x3 : W.cell? ⟨w.heap.size + 2, 3, none⟩ = some (.int .u8 (b 11)) := cell_of hqW 3 _ rfl
  have y0 : W.cell? ⟨B, 0, none⟩ = some (.int .u64 0) := cell_of hcW 0 _ rfl
  have y1 : W.cell? ⟨B, 1, none⟩ = some (.int .u64 v) := cell_of hcW 1 _ rfl
  have y2 : W.cell? ⟨B, 2, none⟩ = some (.pointer z4) := cell_of hcW 2 _ rfl
  have h1W : 1 < W.heap.size := Nat.lt_of_lt_of_le h1 belW.size
  have HC := hide hcW
  have HZ := hide hzW
  have HW := hide belW
  clear hcW hqW hzW belW hz4
  have hG : Ybad.prog.eqGuardType Ybad.prog.depth 30 = false := by kernel_rfl
  have hS : Ybad.prog.stoodInHeld 30 = false := by kernel_rfl
  go_region_with (
       go_at_call 7
       refine (from4_any (b 7) (b 9) (b 10) (b 11) z4 _ (HB.out _) (HB.out _) (HB.out _) (HB.out _) (by exact HZ.out) (by exact h1W)).mono ?_
       rintro e w4 ⟨rfl, bel4⟩
       rw [HV.out]
       have g4 : w4.heap[B]? = some (.cells #[.int .u64 0, .int .u64 v, .pointer z4] 30 (0, 0)) := (bel4.block B (by exact hBlt)).trans (by exact HC.out)
       have u0 : w4.cell? ⟨B, 0, none⟩ = some (.int .u64 0) := cell_of g4 0 _ rfl
       have u1 : w4.cell? ⟨B, 1, none⟩ = some (.int .u64 v) := cell_of g4 1 _ rfl
       have u2 : w4.cell? ⟨B, 2, none⟩ = some (.pointer z4) := cell_of g4 2 _ rfl
       have HW4 := hide ((HW.out.trans (show Below w.heap.size W W.drew from ⟨rfl, rfl, rfl, Nat.le_refl _, fun _ _ => rfl⟩)).trans (bel4.mono (by exact HW.out.size)))
       clear g4 bel4)
  all_goals
    go_wp2
    exact bodyPost_ret (v := .bool true) (by simp [results, Ybad.results4, go_sem]) rfl ⟨rfl, HW4.out⟩

end Go.Proofs.YbulkborgDoor.Em
