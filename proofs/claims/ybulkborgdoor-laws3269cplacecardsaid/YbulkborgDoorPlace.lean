import Derived.Test.YbulkborgDoorPt
namespace Go.Proofs.YbulkborgDoor.Em
open Go.RowKit Go

set_option maxHeartbeats 2000000 in
set_option maxRecDepth 100000 in
theorem place_any (b : Nat → Int) (k : Int) (z4 z6 : Option Addr) (w : World) (hb : ∀ i, By (b i)) (hk : By k) (hz4 : w.cell? ⟨1, 0, none⟩ = some (.pointer z4)) (hz6 : w.cell? ⟨0, 0, none⟩ = some (.pointer z6)) (h1 : 1 < w.heap.size) :
    Calls Ybad.prog 3 #[.agg (b16 b), .int .u8 k] w fun e w' => e = .returned (.bool true) ∧ Below w.heap.size w w' := by
  unfold By at hk
  have HB := hide hb
  clear hb
  have h0 : 0 < w.heap.size := by omega
  have bel0 : Below w.heap.size w (w.alloc (.cells (b16 b) 22)) := (Below.refl _ _).alloc (Nat.le_refl _) _
  have H0 := hide (from16_any b z6 (w.alloc (.cells (b16 b) 22)) HB.out ((bel0.cell (by exact h0)).trans hz6) (by simp))
  clear bel0
  go_enter Ybad.func3, Ybad.ntmps3
  go_wp2_with fail
  refine H0.out.mono ?_
  rintro e w1 ⟨rfl, bel1⟩
  have hb1 : w1.heap[w.heap.size]? = some (.cells (b16 b) 22 (0, 0)) := (bel1.block _ (by simp)).trans (heap_alloc_new w _)
  have bel : Below w.heap.size w w1 := ((Below.refl _ _).alloc (Nat.le_refl _) _).trans (bel1.mono (by simp))
  clear bel1 H0
  obtain ⟨p, hp⟩ : ∃ p : Nat, k % 104 / 8 = p := ⟨(k % 104 / 8).toNat, by omega⟩
  have hp12 : p ≤ 12 := by omega
  obtain ⟨a, ha⟩ : ∃ a, a = k % 104 := ⟨_, rfl⟩
  rw [← ha] at hp ⊢
  have ha0 : 0 ≤ a := by omega
  have H5 := hide (emb_any b a p z4 (.pointer z6) w1 HB.out hp12 ha0 hp ((bel.cell (by exact h1)).trans hz4) (by have := bel.size; omega))
  have HP := hide hp
  have HBl := hide bel
  have HB1 := hide hb1
  have HA := hide ha
  clear hb1 bel hp hz6 ha
  go_wp2_with fail
  refine H5.out.mono ?_
  rintro e w2 ⟨rfl, bel2⟩
  clear H5
  generalize hv : v4 (b (u p 0)) (b (u p 1)) (b (u p 2)) (b (u p 3)) = v
  have HV := hide hv
  clear hv
  have belA : Below w.heap.size w w2 := HBl.out.trans (bel2.mono HBl.out.size)
  have hbA : w2.heap[w.heap.size]? = some (.cells (b16 b) 22 (0, 0)) := (bel2.block _ (lt_of_block HB1.out)).trans HB1.out
  have HBA := hide belA
  have HbA := hide hbA
  clear HB1 HBl bel2 hbA belA
  go_wp2_with fail
  obtain ⟨W, hW⟩ : ∃ W, W = w2.alloc (.cells #[.int .u64 0, .int .u64 v, .pointer z4] 30) := ⟨_, rfl⟩
  rw [← hW]
  have belW : Below w.heap.size w W := by rw [hW]; exact HBA.out.alloc HBA.out.size _
  have hbW : W.heap[w.heap.size]? = some (.cells (b16 b) 22 (0, 0)) := by rw [hW]; exact (Below.heap_alloc _ _ _ (lt_of_block HbA.out)).trans HbA.out
  have hcW : W.heap[w2.heap.size]? = some (.cells #[.int .u64 0, .int .u64 v, .pointer z4] 30 (0, 0)) := by rw [hW]; exact heap_alloc_new w2 _
  have hzW : W.cell? ⟨1, 0, none⟩ = some (.pointer z4) := (belW.cell (by exact h1)).trans hz4
  generalize w2.heap.size = B at *
  clear hW HBA HbA
  have hBlt : B < W.heap.size := lt_of_block hcW
  have x0 : W.cell? ⟨w.heap.size, 0, none⟩ = some (.int .u8 (b 0)) := cell_of hbW 0 _ rfl
  have x1 : W.cell? ⟨w.heap.size, 1, none⟩ = some (.int .u8 (b 1)) := cell_of hbW 1 _ rfl
  have x2 : W.cell? ⟨w.heap.size, 2, none⟩ = some (.int .u8 (b 2)) := cell_of hbW 2 _ rfl
  have x3 : W.cell? ⟨w.heap.size, 3, none⟩ = some (.int .u8 (b 3)) := cell_of hbW 3 _ rfl
  have x4 : W.cell? ⟨w.heap.size, 4, none⟩ = some (.int .u8 (b 4)) := cell_of hbW 4 _ rfl
  have x5 : W.cell? ⟨w.heap.size, 5, none⟩ = some (.int .u8 (b 5)) := cell_of hbW 5 _ rfl
  have x6 : W.cell? ⟨w.heap.size, 6, none⟩ = some (.int .u8 (b 6)) := cell_of hbW 6 _ rfl
  have x7 : W.cell? ⟨w.heap.size, 7, none⟩ = some (.int .u8 (b 7)) := cell_of hbW 7 _ rfl
  have x8 : W.cell? ⟨w.heap.size, 8, none⟩ = some (.int .u8 (b 8)) := cell_of hbW 8 _ rfl
  have x9 : W.cell? ⟨w.heap.size, 9, none⟩ = some (.int .u8 (b 9)) := cell_of hbW 9 _ rfl
  have x10 : W.cell? ⟨w.heap.size, 10, none⟩ = some (.int .u8 (b 10)) := cell_of hbW 10 _ rfl
  have x11 : W.cell? ⟨w.heap.size, 11, none⟩ = some (.int .u8 (b 11)) := cell_of hbW 11 _ rfl
  have x12 : W.cell? ⟨w.heap.size, 12, none⟩ = some (.int .u8 (b 12)) := cell_of hbW 12 _ rfl
  have x13 : W.cell? ⟨w.heap.size, 13, none⟩ = some (.int .u8 (b 13)) := cell_of hbW 13 _ rfl
  have x14 : W.cell? ⟨w.heap.size, 14, none⟩ = some (.int .u8 (b 14)) := cell_of hbW 14 _ rfl
  have x15 : W.cell? ⟨w.heap.size, 15, none⟩ = some (.int .u8 (b 15)) := cell_of hbW 15 _ rfl
  have y0 : W.cell? ⟨B, 0, none⟩ = some (.int .u64 0) := cell_of hcW 0 _ rfl
  have y1 : W.cell? ⟨B, 1, none⟩ = some (.int .u64 v) := cell_of hcW 1 _ rfl
  have y2 : W.cell? ⟨B, 2, none⟩ = some (.pointer z4) := cell_of hcW 2 _ rfl
  have h1W : 1 < W.heap.size := Nat.lt_of_lt_of_le h1 belW.size
  have HC := hide hcW
  have HZ := hide hzW
  have HW := hide belW
  clear hcW hbW hzW belW hz4 hk
  have hG : Ybad.prog.eqGuardType Ybad.prog.depth 30 = false := by kernel_rfl
  have hS : Ybad.prog.stoodInHeld 30 = false := by kernel_rfl
  go_region_with (first
    | (go_at_call 8
       refine (pick_any b a p _ hp12 ha0 HP.out).mono ?_
       rintro e w3 ⟨rfl, bel3⟩
       have g3 : w3.heap[B]? = some (.cells #[.int .u64 0, .int .u64 v, .pointer z4] 30 (0, 0)) := (bel3.block B (by exact hBlt)).trans (by exact HC.out)
       have v0 : w3.cell? ⟨B, 0, none⟩ = some (.int .u64 0) := cell_of g3 0 _ rfl
       have v1 : w3.cell? ⟨B, 1, none⟩ = some (.int .u64 v) := cell_of g3 1 _ rfl
       have v2 : w3.cell? ⟨B, 2, none⟩ = some (.pointer z4) := cell_of g3 2 _ rfl
       have z3 : w3.cell? ⟨1, 0, none⟩ = some (.pointer z4) := (bel3.cell (by exact h1W)).trans (by exact HZ.out)
       have s3 : 1 < w3.heap.size := Nat.lt_of_lt_of_le h1W bel3.size
       have HW3 := hide ((HW.out.trans (show Below w.heap.size W W.drew from ⟨rfl, rfl, rfl, Nat.le_refl _, fun _ _ => rfl⟩)).trans (bel3.mono (by exact HW.out.size)))
       have HG3 := hide g3
       clear g3 bel3)
    | (go_at_call 7
       refine (from4_any (b (u p 0)) (b (u p 1)) (b (u p 2)) (b (u p 3)) z4 _ (HB.out _) (HB.out _) (HB.out _) (HB.out _) (by assumption) (by assumption)).mono ?_
       rintro e w4 ⟨rfl, bel4⟩
       rw [HV.out]
       have g4 : w4.heap[B]? = some (.cells #[.int .u64 0, .int .u64 v, .pointer z4] 30 (0, 0)) := (bel4.block B (lt_of_block HG3.out)).trans HG3.out
       have u0 : w4.cell? ⟨B, 0, none⟩ = some (.int .u64 0) := cell_of g4 0 _ rfl
       have u1 : w4.cell? ⟨B, 1, none⟩ = some (.int .u64 v) := cell_of g4 1 _ rfl
       have u2 : w4.cell? ⟨B, 2, none⟩ = some (.pointer z4) := cell_of g4 2 _ rfl
       have HW4 := hide (HW3.out.trans (bel4.mono HW3.out.size))
       clear g4 bel4))
  all_goals
    go_wp2
    exact bodyPost_ret (v := .bool true) (by simp [results, Ybad.results3, go_sem]) rfl ⟨rfl, HW4.out⟩
end Go.Proofs.YbulkborgDoor.Em
