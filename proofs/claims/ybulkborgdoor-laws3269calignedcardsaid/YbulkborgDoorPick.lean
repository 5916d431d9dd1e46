import Derived.Test.YbulkborgDoorEmb
namespace Go.Proofs.YbulkborgDoor.Em
open Go.RowKit Go

/-- Fifteen octets. -/
def b15 (g : Nat → Int) : Array Value := #[.int .u8 (g 0), .int .u8 (g 1), .int .u8 (g 2), .int .u8 (g 3), .int .u8 (g 4), .int .u8 (g 5), .int .u8 (g 6), .int .u8 (g 7), .int .u8 (g 8), .int .u8 (g 9), .int .u8 (g 10), .int .u8 (g 11), .int .u8 (g 12), .int .u8 (g 13), .int .u8 (g 14)]
/-- The octet at place i of the sequence without octet 8. -/
def sk (i : Nat) : Nat := if i < 8 then i else i + 1
/-- The sequence of which n octets have been laid. -/
def sq (b : Nat → Int) (n : Nat) : Array Value := b15 (fun i => if i < n then b (sk i) else 0)
/-- The octets laid behind q rounds. -/
def mq (q : Nat) : Nat := if q ≤ 8 then q else q - 1

theorem b15_at (g : Nat → Int) (i : Nat) (hi : i < 15) : (b15 g)[i]? = some (.int .u8 (g i)) := by
  obtain rfl | rfl | rfl | rfl | rfl | rfl | rfl | rfl | rfl | rfl | rfl | rfl | rfl | rfl | rfl : i = 0 ∨ i = 1 ∨ i = 2 ∨ i = 3 ∨ i = 4 ∨ i = 5 ∨ i = 6 ∨ i = 7 ∨ i = 8 ∨ i = 9 ∨ i = 10 ∨ i = 11 ∨ i = 12 ∨ i = 13 ∨ i = 14 := by omega
  all_goals rfl
theorem b15_size (g : Nat → Int) : (b15 g).size = 15 := rfl
theorem b15_ext (g h : Nat → Int) (e : ∀ i, i < 15 → g i = h i) : b15 g = b15 h := by
  unfold b15
  rw [e 0 (by omega), e 1 (by omega), e 2 (by omega), e 3 (by omega), e 4 (by omega), e 5 (by omega), e 6 (by omega), e 7 (by omega), e 8 (by omega), e 9 (by omega), e 10 (by omega), e 11 (by omega), e 12 (by omega), e 13 (by omega), e 14 (by omega)]
theorem b15_set (g : Nat → Int) (i : Nat) (x : Int) : (b15 g).setIfInBounds i (.int .u8 x) = b15 (fun m => if m = i then x else g m) := by
  apply Array.ext_getElem?
  intro m
  by_cases hm : m < 15
  · rw [b15_at _ m hm, Array.getElem?_setIfInBounds]
    split
    · rename_i e; subst e; simp [b15_size, hm]
    · rename_i e; rw [b15_at _ m hm, if_neg (Ne.symm e)]
  · rw [Array.getElem?_eq_none (by simp [b15_size]; omega), Array.getElem?_eq_none (by simp [b15_size]; omega)]
theorem sq_set (b : Nat → Int) (n : Nat) : (sq b n).setIfInBounds n (.int .u8 (b (sk n))) = sq b (n + 1) := by
  unfold sq
  rw [b15_set]
  apply b15_ext
  intro i hi
  by_cases h : i = n
  · subst h; simp
  · simp only [h, if_false]
    by_cases h2 : i < n
    · rw [if_pos h2, if_pos (by omega)]
    · rw [if_neg h2, if_neg (by omega)]
theorem sq_zero (b : Nat → Int) : sq b 0 = #[.int .u8 0, .int .u8 0, .int .u8 0, .int .u8 0, .int .u8 0, .int .u8 0, .int .u8 0, .int .u8 0, .int .u8 0, .int .u8 0, .int .u8 0, .int .u8 0, .int .u8 0, .int .u8 0, .int .u8 0] := by
  have : sq b 0 = b15 (fun _ => 0) := b15_ext _ _ (fun i _ => by simp)
  rw [this]; rfl

/-- The memory of the filling loop, n octets laid. -/
def QRel (b : Nat → Int) (w wr : World) (n : Nat) : Prop :=
  wr.heap[w.heap.size]? = some (.cells (b16 b) 22 (0, 0)) ∧ wr.heap[w.heap.size + 1]? = some (.cells #[.int .u8 0, .int .u8 0, .int .u8 0, .int .u8 0] 34 (0, 0)) ∧ wr.heap[w.heap.size + 2]? = some (.cells (sq b n) 42 (0, 0)) ∧ Below w.heap.size w wr ∧ wr.heap.size = w.heap.size + 3

theorem qrel_start (b : Nat → Int) (w : World) :
    QRel b w (((w.alloc (.cells (b16 b) 22)).alloc (.cells #[.int .u8 0, .int .u8 0, .int .u8 0, .int .u8 0] 34)).alloc (.cells #[.int .u8 0, .int .u8 0, .int .u8 0, .int .u8 0, .int .u8 0, .int .u8 0, .int .u8 0, .int .u8 0, .int .u8 0, .int .u8 0, .int .u8 0, .int .u8 0, .int .u8 0, .int .u8 0, .int .u8 0] 42)) 0 := by
  refine ⟨(Below.heap_alloc _ _ _ (by simp; omega)).trans ((Below.heap_alloc _ _ _ (by simp)).trans (heap_alloc_new w _)), (Below.heap_alloc _ _ _ (by simp)).trans ?_, ?_, (((Below.refl _ _).alloc (Nat.le_refl _) _).alloc (by simp) _).alloc (by simp; omega) _, by simp⟩
  · have := heap_alloc_new (w.alloc (.cells (b16 b) 22)) (.cells #[.int .u8 0, .int .u8 0, .int .u8 0, .int .u8 0] 34)
    rw [show (w.alloc (.cells (b16 b) 22)).heap.size = w.heap.size + 1 by simp] at this
    exact this
  · rw [sq_zero]
    have := heap_alloc_new ((w.alloc (.cells (b16 b) 22)).alloc (.cells #[.int .u8 0, .int .u8 0, .int .u8 0, .int .u8 0] 34)) (.cells #[.int .u8 0, .int .u8 0, .int .u8 0, .int .u8 0, .int .u8 0, .int .u8 0, .int .u8 0, .int .u8 0, .int .u8 0, .int .u8 0, .int .u8 0, .int .u8 0, .int .u8 0, .int .u8 0, .int .u8 0] 42)
    rw [show ((w.alloc (.cells (b16 b) 22)).alloc (.cells #[.int .u8 0, .int .u8 0, .int .u8 0, .int .u8 0] 34)).heap.size = w.heap.size + 2 by simp] at this
    exact this

theorem qrel_step {b : Nat → Int} {w wr : World} {n : Nat} (h : QRel b w wr n) {x : Int} (hx : x = b (sk n)) : QRel b w (wr.setCell ⟨w.heap.size + 2, n, none⟩ (.int .u8 x)) (n + 1) := by
  obtain ⟨h1, h2, h3, h4, h5⟩ := h
  refine ⟨(Below.heap_setCell _ _ _ _ (by show w.heap.size ≠ w.heap.size + 2; omega)).trans h1, (Below.heap_setCell _ _ _ _ (by show w.heap.size + 1 ≠ w.heap.size + 2; omega)).trans h2, ?_, h4.setCell (by show w.heap.size ≤ w.heap.size + 2; omega) _, by simp [h5]⟩
  rw [heap_setCell_same wr (w.heap.size + 2) n _ 42 _ h3, hx, ← sq_set]

/-- The memory of the picking loop, k octets picked. -/
def KRel (b : Nat → Int) (p : Nat) (w wr : World) (k : Nat) : Prop :=
  wr.heap[w.heap.size + 1]? = some (.cells #[.int .u8 0, .int .u8 0, .int .u8 0, .int .u8 0] 34 (0, 0)) ∧ wr.heap[w.heap.size + 2]? = some (.cells (sq b 15) 42 (0, 0)) ∧ wr.heap[w.heap.size + 3]? = some (.cells (four (fun m => b (u p m)) k) 34 (0, 0)) ∧ Below w.heap.size w wr

theorem krel_start {b : Nat → Int} (p : Nat) {w wr : World} (h : QRel b w wr 15) : KRel b p w (wr.alloc (.cells #[.int .u8 0, .int .u8 0, .int .u8 0, .int .u8 0] 34)) 0 := by
  obtain ⟨h1, h2, h3, h4, h5⟩ := h
  refine ⟨(Below.heap_alloc _ _ _ (by omega)).trans h2, (Below.heap_alloc _ _ _ (by omega)).trans h3, ?_, h4.alloc (by omega) _⟩
  rw [four_zero, ← h5]
  exact heap_alloc_new wr _

theorem krel_step {b : Nat → Int} {p : Nat} {w wr : World} {k : Nat} (h : KRel b p w wr k) (hk : k < 4) {x : Int} (hx : x = b (u p k)) : KRel b p w (wr.setCell ⟨w.heap.size + 3, k, none⟩ (.int .u8 x)) (k + 1) := by
  obtain ⟨h1, h2, h3, h4⟩ := h
  refine ⟨(Below.heap_setCell _ _ _ _ (by show w.heap.size + 1 ≠ w.heap.size + 3; omega)).trans h1, (Below.heap_setCell _ _ _ _ (by show w.heap.size + 2 ≠ w.heap.size + 3; omega)).trans h2, ?_, h4.setCell (by show w.heap.size ≤ w.heap.size + 3; omega) _⟩
  rw [heap_setCell_same wr (w.heap.size + 3) k _ 34 _ h3, hx]
  rw [← four_set (fun m => b (u p m)) k hk]

set_option maxHeartbeats 2000000 in
set_option maxRecDepth 100000 in
theorem pick_any (b : Nat → Int) (a : Int) (p : Nat) (w : World) (hp : p ≤ 12) (ha : 0 ≤ a) (hap : a / 8 = p) :
    Calls Ybad.prog 8 #[.agg (b16 b), .int .i64 a] w fun e w' => e = .returned (.agg #[.int .u8 (b (u p 0)), .int .u8 (b (u p 1)), .int .u8 (b (u p 2)), .int .u8 (b (u p 3))]) ∧ Below w.heap.size w w' := by
  have HP := hide hap
  have E0 := qrel_start b w
  clear hap
  go_enter Ybad.func8, Ybad.ntmps8
  go_wp2_with fail
  go_loopw [6, 7] (fun i j wr => ∃ q : Nat, q ≤ 16 ∧ j = .int .i64 q ∧ i = .int .i64 (mq q) ∧ QRel b w wr (mq q)) (fun _ j _ => 16 - (intOf j).toNat)
  case atStart => exact ⟨0, by omega, rfl, rfl, E0⟩
  case round =>
    obtain ⟨q, hq, rfl, rfl, hE⟩ := hrel
    clear E0
    by_cases hlt : q < 16
    · by_cases h8 : q = 8
      · subst h8
        have HE := hide hE
        clear hE
        go_wp2
        go_roundw
        case rel => exact ⟨9, by omega, by go_num, rfl, HE.out⟩
        case measure => simp [intOf]
      · have hm : mq q < 15 := by unfold mq; split <;> omega
        have hms : mq (q + 1) = mq q + 1 := by unfold mq; split <;> split <;> omega
        have hk : sk (mq q) = q := by unfold sk mq; split <;> split <;> omega
        have hc : wr.cell? ⟨w.heap.size, q, none⟩ = some (.int .u8 (b q)) := cell_of hE.1 _ _ (b16_at b _ hlt)
        have hs : wr.cell? ⟨w.heap.size + 2, mq q, none⟩ = some (.int .u8 (if mq q < mq q then b (sk (mq q)) else 0)) := cell_of hE.2.2.1 _ _ (b15_at _ _ hm)
        have hf := free_of hE.2.2.1 (mq q)
        have h8b : ((q : Int) == 8) = false := beq_eq_false_iff_ne.2 (by omega)
        have HE := hide hE
        have HX := hide (show b q = b (sk (mq q)) by rw [hk])
        have HM := hide hms
        clear hE hk hms h8
        generalize mq q = y at *
        generalize b q = x at *
        go_wp2
        go_roundw
        case rel => exact ⟨q + 1, by omega, by go_num, by rw [HM.out]; go_num, by rw [HM.out]; exact qrel_step HE.out HX.out⟩
        case measure => simp [intOf]; omega
    · obtain rfl : q = 16 := by omega
      have hQ : QRel b w wr 15 := hE
      clear hE hlt hq
      have hsz := hQ.2.2.2.2
      have K0 := krel_start p hQ
      clear hQ
      have hq : wrap64 (a.tdiv 8) = (p : Int) := by
        rw [Int.tdiv_eq_ediv_of_nonneg ha, HP.out]
        unfold wrap64; omega
      by_cases h8 : 8 < p
      · go_wp2_with fail
        obtain ⟨s, hs, hu, hs12⟩ : ∃ s : Nat, (p : Int) - 1 = s ∧ (∀ k, sk (s + k) = u p k) ∧ s ≤ 11 := ⟨p - 1, by omega, fun k => by unfold sk u; rw [if_pos h8]; split <;> omega, by omega⟩
        rw [hs]
        clear hq hsz h8
        have HU := hide hu
        have HS := hide hs
        clear hu hs
        go_loopw [11] (fun j wr => ∃ k : Nat, k ≤ 4 ∧ j = .int .i64 k ∧ KRel b p w wr k) (fun j _ => 4 - (intOf j).toNat)
        case atStart => exact ⟨0, by omega, rfl, K0⟩
        case round =>
          obtain ⟨k, hk, rfl, hE⟩ := hrel
          clear K0
          by_cases hlt : k < 4
          · have hc : wr.cell? ⟨w.heap.size + 2, s + k, none⟩ = some (.int .u8 (if s + k < 15 then b (sk (s + k)) else 0)) := cell_of hE.2.1 _ _ (b15_at _ _ (by omega))
            have hd : wr.cell? ⟨w.heap.size + 3, k, none⟩ = some (.int .u8 (if k < k then b (u p k) else 0)) := cell_of hE.2.2.1 k _ (four_at _ k k hlt)
            have hf := free_of hE.2.2.1 k
            rw [if_pos (show s + k < 15 by omega)] at hc
            have HE := hide hE
            have HX := hide (show b (sk (s + k)) = b (u p k) by rw [HU.out])
            clear hE
            generalize b (sk (s + k)) = x at *
            go_wp2
            go_roundw
            case rel => exact ⟨k + 1, by omega, by go_num, krel_step HE.out hlt HX.out⟩
            case measure => simp [intOf]; omega
          · obtain rfl : k = 4 := by omega
            have c0 : wr.cell? ⟨w.heap.size + 3, 0, none⟩ = some (.int .u8 (b (u p 0))) := cell_of hE.2.2.1 0 _ (by rw [four_full]; rfl)
            have c1 : wr.cell? ⟨w.heap.size + 3, 1, none⟩ = some (.int .u8 (b (u p 1))) := cell_of hE.2.2.1 1 _ (by rw [four_full]; rfl)
            have c2 : wr.cell? ⟨w.heap.size + 3, 2, none⟩ = some (.int .u8 (b (u p 2))) := cell_of hE.2.2.1 2 _ (by rw [four_full]; rfl)
            have c3 : wr.cell? ⟨w.heap.size + 3, 3, none⟩ = some (.int .u8 (b (u p 3))) := cell_of hE.2.2.1 3 _ (by rw [four_full]; rfl)
            have r0 : wr.cell? ⟨w.heap.size + 1, 0, none⟩ = some (.int .u8 0) := cell_of hE.1 0 _ rfl
            have r1 : wr.cell? ⟨w.heap.size + 1, 1, none⟩ = some (.int .u8 0) := cell_of hE.1 1 _ rfl
            have r2 : wr.cell? ⟨w.heap.size + 1, 2, none⟩ = some (.int .u8 0) := cell_of hE.1 2 _ rfl
            have r3 : wr.cell? ⟨w.heap.size + 1, 3, none⟩ = some (.int .u8 0) := cell_of hE.1 3 _ rfl
            have f0 := free_of hE.1 0
            have f1 := free_of hE.1 1
            have f2 := free_of hE.1 2
            have f3 := free_of hE.1 3
            have bel := hE.2.2.2
            clear hE
            go_wp2
            exact bodyPost_ret (v := .agg #[.int .u8 (b (u p 0)), .int .u8 (b (u p 1)), .int .u8 (b (u p 2)), .int .u8 (b (u p 3))]) (by simp [results, Ybad.results8, go_sem, r0, r1, r2, r3]) rfl ⟨rfl, (((bel.setCell (Nat.le_succ _) _).setCell (Nat.le_succ _) _).setCell (Nat.le_succ _) _).setCell (Nat.le_succ _) _⟩
      · go_wp2_with fail
        obtain ⟨s, hs, hu, hs12⟩ : ∃ s : Nat, wrap64 (a.tdiv 8) = s ∧ (∀ k, sk (s + k) = u p k) ∧ s ≤ 11 := ⟨p, hq, fun k => by unfold sk u; rw [if_neg h8], by omega⟩
        rw [hs]
        clear hq hsz h8
        have HU := hide hu
        have HS := hide hs
        clear hu hs
        go_loopw [11] (fun j wr => ∃ k : Nat, k ≤ 4 ∧ j = .int .i64 k ∧ KRel b p w wr k) (fun j _ => 4 - (intOf j).toNat)
        case atStart => exact ⟨0, by omega, rfl, K0⟩
        case round =>
          obtain ⟨k, hk, rfl, hE⟩ := hrel
          clear K0
          by_cases hlt : k < 4
          · have hc : wr.cell? ⟨w.heap.size + 2, s + k, none⟩ = some (.int .u8 (if s + k < 15 then b (sk (s + k)) else 0)) := cell_of hE.2.1 _ _ (b15_at _ _ (by omega))
            have hd : wr.cell? ⟨w.heap.size + 3, k, none⟩ = some (.int .u8 (if k < k then b (u p k) else 0)) := cell_of hE.2.2.1 k _ (four_at _ k k hlt)
            have hf := free_of hE.2.2.1 k
            rw [if_pos (show s + k < 15 by omega)] at hc
            have HE := hide hE
            have HX := hide (show b (sk (s + k)) = b (u p k) by rw [HU.out])
            clear hE
            generalize b (sk (s + k)) = x at *
            go_wp2
            go_roundw
            case rel => exact ⟨k + 1, by omega, by go_num, krel_step HE.out hlt HX.out⟩
            case measure => simp [intOf]; omega
          · obtain rfl : k = 4 := by omega
            have c0 : wr.cell? ⟨w.heap.size + 3, 0, none⟩ = some (.int .u8 (b (u p 0))) := cell_of hE.2.2.1 0 _ (by rw [four_full]; rfl)
            have c1 : wr.cell? ⟨w.heap.size + 3, 1, none⟩ = some (.int .u8 (b (u p 1))) := cell_of hE.2.2.1 1 _ (by rw [four_full]; rfl)
            have c2 : wr.cell? ⟨w.heap.size + 3, 2, none⟩ = some (.int .u8 (b (u p 2))) := cell_of hE.2.2.1 2 _ (by rw [four_full]; rfl)
            have c3 : wr.cell? ⟨w.heap.size + 3, 3, none⟩ = some (.int .u8 (b (u p 3))) := cell_of hE.2.2.1 3 _ (by rw [four_full]; rfl)
            have r0 : wr.cell? ⟨w.heap.size + 1, 0, none⟩ = some (.int .u8 0) := cell_of hE.1 0 _ rfl
            have r1 : wr.cell? ⟨w.heap.size + 1, 1, none⟩ = some (.int .u8 0) := cell_of hE.1 1 _ rfl
            have r2 : wr.cell? ⟨w.heap.size + 1, 2, none⟩ = some (.int .u8 0) := cell_of hE.1 2 _ rfl
            have r3 : wr.cell? ⟨w.heap.size + 1, 3, none⟩ = some (.int .u8 0) := cell_of hE.1 3 _ rfl
            have f0 := free_of hE.1 0
            have f1 := free_of hE.1 1
            have f2 := free_of hE.1 2
            have f3 := free_of hE.1 3
            have bel := hE.2.2.2
            clear hE
            go_wp2
            exact bodyPost_ret (v := .agg #[.int .u8 (b (u p 0)), .int .u8 (b (u p 1)), .int .u8 (b (u p 2)), .int .u8 (b (u p 3))]) (by simp [results, Ybad.results8, go_sem, r0, r1, r2, r3]) rfl ⟨rfl, (((bel.setCell (Nat.le_succ _) _).setCell (Nat.le_succ _) _).setCell (Nat.le_succ _) _).setCell (Nat.le_succ _) _⟩
end Go.Proofs.YbulkborgDoor.Em
