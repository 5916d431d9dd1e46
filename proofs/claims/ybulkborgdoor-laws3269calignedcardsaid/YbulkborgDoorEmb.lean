import Derived.Test.YbulkborgDoorAs
namespace Go.Proofs.YbulkborgDoor.Em
open Go.RowKit Go

/-- The octet that round j takes, from place p on, octet 8 passed over. -/
def u (p j : Nat) : Nat := if 8 < p then p + j else if p + j < 8 then p + j else p + j + 1
/-- Where the reader stands behind j rounds. -/
def at' (p j : Nat) : Nat := if 8 < p then p + j else if p + j ≤ 8 then p + j else p + j + 1
/-- The four octets of which j have been laid. -/
def four (f : Nat → Int) (j : Nat) : Array Value := #[.int .u8 (if 0 < j then f 0 else 0), .int .u8 (if 1 < j then f 1 else 0), .int .u8 (if 2 < j then f 2 else 0), .int .u8 (if 3 < j then f 3 else 0)]
theorem four_set (f : Nat → Int) (j : Nat) (hj : j < 4) : (four f j).setIfInBounds j (.int .u8 (f j)) = four f (j + 1) := by
  obtain rfl | rfl | rfl | rfl : j = 0 ∨ j = 1 ∨ j = 2 ∨ j = 3 := by omega
  all_goals simp [four]
theorem four_zero (f : Nat → Int) : four f 0 = #[.int .u8 0, .int .u8 0, .int .u8 0, .int .u8 0] := by simp [four]
theorem four_full (f : Nat → Int) : four f 4 = #[.int .u8 (f 0), .int .u8 (f 1), .int .u8 (f 2), .int .u8 (f 3)] := by simp [four]
theorem b16_at (b : Nat → Int) (i : Nat) (hi : i < 16) : (b16 b)[i]? = some (.int .u8 (b i)) := by
  obtain rfl | rfl | rfl | rfl | rfl | rfl | rfl | rfl | rfl | rfl | rfl | rfl | rfl | rfl | rfl | rfl : i = 0 ∨ i = 1 ∨ i = 2 ∨ i = 3 ∨ i = 4 ∨ i = 5 ∨ i = 6 ∨ i = 7 ∨ i = 8 ∨ i = 9 ∨ i = 10 ∨ i = 11 ∨ i = 12 ∨ i = 13 ∨ i = 14 ∨ i = 15 := by omega
  all_goals rfl
theorem four_at (f : Nat → Int) (j m : Nat) (hm : m < 4) : (four f j)[m]? = some (.int .u8 (if m < j then f m else 0)) := by
  obtain rfl | rfl | rfl | rfl : m = 0 ∨ m = 1 ∨ m = 2 ∨ m = 3 := by omega
  all_goals rfl

theorem at'_zero (p : Nat) : at' p 0 = p := by unfold at'; split <;> (try split) <;> omega

/-- The reader's memory behind j rounds. -/
def ERel (b : Nat → Int) (p : Nat) (w wr : World) (O j : Nat) : Prop :=
  wr.heap[O]? = some (.cells (b16 b) 22 (0, 0)) ∧ wr.heap[O + 1]? = some (.cells (four (fun m => b (u p m)) j) 34 (0, 0)) ∧ wr.heap[w.heap.size + 1]? = some (.cells #[.int .u64 0, .int .u64 0, .pointer none] 30 (0, 0)) ∧ Below w.heap.size w wr ∧ w.heap.size + 2 ≤ O

theorem erel_start (b : Nat → Int) (p : Nat) (v0 : Array Value) (w w1 : World) (bel1 : Below ((w.alloc (.cells v0 30)).alloc (.cells #[.int .u64 0, .int .u64 0, .pointer none] 30)).heap.size ((w.alloc (.cells v0 30)).alloc (.cells #[.int .u64 0, .int .u64 0, .pointer none] 30)) w1) :
    ERel b p w ((w1.alloc (.cells (b16 b) 22)).alloc (.cells #[.int .u8 0, .int .u8 0, .int .u8 0, .int .u8 0] 34)) w1.heap.size 0 := by
  have hsz := bel1.size
  simp at hsz
  have b0 : Below w.heap.size w w1 := (((Below.refl _ _).alloc (Nat.le_refl _) _).alloc (by simp) _).trans (bel1.mono (by simp; omega))
  have hr : w1.heap[w.heap.size + 1]? = some (.cells #[.int .u64 0, .int .u64 0, .pointer none] 30 (0, 0)) := by
    rw [bel1.block (w.heap.size + 1) (by simp)]
    have := heap_alloc_new (w.alloc (.cells v0 30)) (.cells #[.int .u64 0, .int .u64 0, .pointer none] 30)
    rw [show (w.alloc (.cells v0 30)).heap.size = w.heap.size + 1 by simp] at this
    exact this
  refine ⟨(Below.heap_alloc _ _ _ (by simp)).trans (heap_alloc_new w1 _), ?_, (Below.heap_alloc _ _ _ (by simp; omega)).trans ((Below.heap_alloc _ _ _ (by omega)).trans hr), (b0.alloc b0.size _).alloc (by simp; omega) _, by omega⟩
  rw [four_zero]
  have := heap_alloc_new (w1.alloc (.cells (b16 b) 22)) (.cells #[.int .u8 0, .int .u8 0, .int .u8 0, .int .u8 0] 34)
  rw [show (w1.alloc (.cells (b16 b) 22)).heap.size = w1.heap.size + 1 by simp] at this
  exact this

theorem erel_step {b : Nat → Int} {p : Nat} {w wr : World} {O j : Nat} (h : ERel b p w wr O j) (hj : j < 4) {x : Int} (hx : x = b (u p j)) : ERel b p w (wr.setCell ⟨O + 1, j, none⟩ (.int .u8 x)) O (j + 1) := by
  obtain ⟨h1, h2, h3, h4, h5⟩ := h
  refine ⟨(Below.heap_setCell _ _ _ _ (by show O ≠ O + 1; omega)).trans h1, ?_, (Below.heap_setCell _ _ _ _ (by show w.heap.size + 1 ≠ O + 1; omega)).trans h3, h4.setCell (by show w.heap.size ≤ O + 1; omega) _, h5⟩
  rw [heap_setCell_same wr (O + 1) j _ 34 _ h2, hx]
  rw [← four_set (fun m => b (u p m)) j hj]

set_option maxHeartbeats 2000000 in
set_option maxRecDepth 100000 in
theorem emb_any (b : Nat → Int) (a : Int) (p : Nat) (z4 : Option Addr) (z6 : Value) (w : World) (hb : ∀ i, By (b i)) (hp : p ≤ 12) (ha : 0 ≤ a) (hap : a / 8 = p) (hz : w.cell? ⟨1, 0, none⟩ = some (.pointer z4)) (h1 : 1 < w.heap.size) :
    Calls Ybad.prog 5 #[.agg #[.int .u64 (hi b), .int .u64 (lo b), z6], .int .i64 a] w fun e w' => e = .returned (.agg #[.int .u64 0, .int .u64 (v4 (b (u p 0)) (b (u p 1)) (b (u p 2)) (b (u p 3))), .pointer z4]) ∧ Below w.heap.size w w' := by
  have HAS := hide (fun W => as16_any b z6 W hb)
  have HB := hide hb
  have HP := hide hap
  clear hb
  go_enter Ybad.func5, Ybad.ntmps5
  go_wp2_with fail
  refine (HAS.out _).mono ?_
  rintro e w1 ⟨rfl, bel1⟩
  have E0 := erel_start b p _ w w1 bel1
  clear HAS bel1 hap
  go_wp2_with fail
  have hq : wrap64 (a.tdiv 8) = (p : Int) := by
    rw [Int.tdiv_eq_ediv_of_nonneg ha, HP.out]
    unfold wrap64; omega
  rw [hq]
  clear hq
  obtain ⟨O, hO⟩ : ∃ O, O = w1.heap.size := ⟨_, rfl⟩
  rw [← hO] at E0 ⊢
  have HO := hide hO
  clear hO
  go_loopw [7, 13] (fun i j wr => ∃ k : Nat, k ≤ 4 ∧ j = .int .i64 k ∧ i = .int .i64 (at' p k) ∧ ERel b p w wr O k) (fun _ j _ => 4 - (intOf j).toNat)
  case atStart => exact ⟨0, by omega, rfl, by rw [at'_zero], E0⟩
  case round =>
    obtain ⟨k, hk, rfl, rfl, hE⟩ := hrel
    clear E0
    by_cases hlt : k < 4
    · have hu : u p k < 16 := by unfold u; split <;> (try split) <;> omega
      have hc : wr.cell? ⟨O, u p k, none⟩ = some (.int .u8 (b (u p k))) := cell_of hE.1 _ _ (b16_at b _ hu)
      have hs : wr.cell? ⟨O + 1, k, none⟩ = some (.int .u8 (if k < k then b (u p k) else 0)) := cell_of hE.2.1 k _ (four_at _ k k hlt)
      have hf := free_of hE.2.1 k
      have HE := hide hE
      clear hE
      generalize hx : b (u p k) = x at *
      have HX := hide hx
      clear hx
      by_cases h8 : at' p k = 8
      · have hu9 : u p k = 9 := by unfold at' at h8; unfold u; split at h8 <;> (try split at h8) <;> (try split) <;> (try split) <;> omega
        have ha' : at' p (k + 1) = 10 := by unfold at' at h8 ⊢; split at h8 <;> (try split at h8) <;> (try split) <;> (try split) <;> omega
        rw [h8]
        rw [hu9] at hc
        have HA := hide ha'
        have H8 := hide h8
        clear ha' h8 hu9 hu
        go_wp2
        go_roundw
        case rel => exact ⟨k + 1, by omega, by go_num, by rw [HA.out]; rfl, erel_step HE.out hlt HX.out.symm⟩
        case measure => simp [intOf]; omega
      · have hu9 : u p k = at' p k := by unfold at' at h8 ⊢; unfold u; split at h8 <;> (try split at h8) <;> (try split) <;> (try split) <;> (try split) <;> omega
        have ha' : at' p (k + 1) = at' p k + 1 := by unfold at' at h8 ⊢; split at h8 <;> (try split at h8) <;> (try split) <;> (try split) <;> (try split) <;> omega
        rw [hu9] at hc hu
        have h8b : ((at' p k : Int) == 8) = false := beq_eq_false_iff_ne.2 (by omega)
        have HA := hide ha'
        clear ha' h8 hu9
        generalize at' p k = y at *
        go_wp2
        go_roundw
        case rel => exact ⟨k + 1, by omega, by go_num, by rw [HA.out]; go_num, erel_step HE.out hlt HX.out.symm⟩
        case measure => simp [intOf]; omega
    · obtain rfl : k = 4 := by omega
      have c0 : wr.cell? ⟨O + 1, 0, none⟩ = some (.int .u8 (b (u p 0))) := cell_of hE.2.1 0 _ (by rw [four_full]; rfl)
      have c1 : wr.cell? ⟨O + 1, 1, none⟩ = some (.int .u8 (b (u p 1))) := cell_of hE.2.1 1 _ (by rw [four_full]; rfl)
      have c2 : wr.cell? ⟨O + 1, 2, none⟩ = some (.int .u8 (b (u p 2))) := cell_of hE.2.1 2 _ (by rw [four_full]; rfl)
      have c3 : wr.cell? ⟨O + 1, 3, none⟩ = some (.int .u8 (b (u p 3))) := cell_of hE.2.1 3 _ (by rw [four_full]; rfl)
      have bel := hE.2.2.2.1
      have hsz := bel.size
      have hz' : wr.cell? ⟨1, 0, none⟩ = some (.pointer z4) := (bel.cell (by exact h1)).trans hz
      have hr := hE.2.2.1
      have hOlt := lt_of_block hr
      clear hE
      go_wp2_with fail
      refine (from4_any _ _ _ _ z4 wr (HB.out _) (HB.out _) (HB.out _) (HB.out _) hz' (by omega)).mono ?_
      rintro e w5 ⟨rfl, bel5⟩
      have hr5 : w5.heap[w.heap.size + 1]? = some (.cells #[.int .u64 0, .int .u64 0, .pointer none] 30 (0, 0)) := (bel5.block _ hOlt).trans hr
      have r0 : w5.cell? ⟨w.heap.size + 1, 0, none⟩ = some (.int .u64 0) := cell_of hr5 0 _ rfl
      have r1 : w5.cell? ⟨w.heap.size + 1, 1, none⟩ = some (.int .u64 0) := cell_of hr5 1 _ rfl
      have r2 : w5.cell? ⟨w.heap.size + 1, 2, none⟩ = some (.pointer none) := cell_of hr5 2 _ rfl
      have f0 := free_of hr5 0
      have f1 := free_of hr5 1
      have f2 := free_of hr5 2
      have bel6 : Below w.heap.size w w5 := bel.trans (bel5.mono hsz)
      clear hr hr5 bel5 c0 c1 c2 c3
      go_wp2
      exact bodyPost_ret (v := .agg #[.int .u64 0, .int .u64 (v4 (b (u p 0)) (b (u p 1)) (b (u p 2)) (b (u p 3))), .pointer z4]) (by simp [results, Ybad.results5, go_sem, r0, r1, r2]) rfl ⟨rfl, ((bel6.setCell (Nat.le_succ _) _).setCell (Nat.le_succ _) _).setCell (Nat.le_succ _) _⟩
end Go.Proofs.YbulkborgDoor.Em
