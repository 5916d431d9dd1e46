import Derived.Test.YbulkboqsCmNumber
import Derived.Test.YbulkboqsCmFill
namespace Go.Proofs.Ybulkboqs.Cm
open Go.RowKit Go

/-- A slice of uint32 that came in: its cells are there wherever there is an element. -/
def Came (w : World) (a : Option Addr) (len : Nat) (Z : List Int) : Prop :=
  len ≤ Z.length ∧ ∀ j, j < len → ∃ b off, a = some ⟨b, off, none⟩ ∧ b < w.heap.size ∧ w.cell? ⟨b, off + j, none⟩ = some (.int .u32 (Z.getD j 0)) ∧ 0 ≤ Z.getD j 0 ∧ Z.getD j 0 ≤ 4294967295

set_option maxHeartbeats 400000 in
/-- Too long: true at once. -/
theorem law_long (a0 : Option Addr) (len0 cap0 : Nat) (a1 : Option Addr) (len1 cap1 : Nat) (a2 : Int) (w : World) (h : 1024 < len0 ∨ (len0 ≤ 1024 ∧ 1024 < len1)) :
    Calls Yba.prog 3 #[.slice a0 len0 cap0, .slice a1 len1 cap1, .int .u16 a2] w fun e w' => e = .returned (.bool true) ∧ Below w.heap.size w w' := by
  rcases h with h | ⟨h, h'⟩
  all_goals
    go_enter Yba.func3, Yba.ntmps3
    go_wp2
    go_ret
    exact ⟨rfl, Below.refl _ _⟩

def fNum (n : Nat) (r : Int) : Int := r % ((n : Int) + 1) - 1
def fSym (p : Nat) (r : Int) : Int := r % (p : Int)

theorem row_set {wr : World} {B g n c k : Nat} {xs ys : List Int} {x : Int} (h : wr.ownsRow B 26 1 (.slice (some ⟨g, 0, none⟩) n c) n (I32 xs)) (e : xs.set k x = ys) :
    (wr.setCell ⟨g, k, none⟩ (.int .i32 x)).ownsRow B 26 1 (.slice (some ⟨g, 0, none⟩) n c) n (I32 ys) := by
  have := (h.stored k (.int .i32 x)).1
  rw [I32, ← List.map_set, e] at this
  exact this

theorem some_of {w : World} {base : Nat} {e : TypeId} {size : Nat} {v : Value} {n : Nat} {xs : List Value} (h : w.ownsRow base e size v n xs) (hne : v ≠ .slice none 0 0) : ∃ g c, v = .slice (some ⟨g, 0, none⟩) n c := by
  rcases h.2 with ⟨h, _⟩ | ⟨g, c, _, h, _⟩
  · exact absurd h hne
  · exact ⟨g, c, h⟩

/-- What holds of the law's own list when 'acc' has been gathered. -/
def RelW (w wr : World) (acc : List Int) (v : Value) : Prop :=
  wr.ownsRow w.heap.size 26 1 v acc.length (I32 acc) ∧ Below w.heap.size w wr ∧ (acc = [] → v = .slice none 0 0)
theorem relW_start (w : World) : RelW w w [] (.slice none 0 0) := ⟨World.ownsRow_nil _ _ _ _, Below.refl _ _, fun _ => rfl⟩
theorem relW_form {w wr : World} {acc : List Int} {v : Value} (h : RelW w wr acc v) : (v = .slice none 0 0 ∧ acc = []) ∨ ∃ g c, v = .slice (some ⟨g, 0, none⟩) acc.length c ∧ 0 < acc.length := by
  rcases h.1.2 with ⟨h1, h2⟩ | ⟨g, c, _, h3, _⟩
  · exact .inl ⟨h1, List.length_eq_zero_iff.1 h2⟩
  · refine .inr ⟨g, c, h3, ?_⟩
    rcases Nat.eq_zero_or_pos acc.length with h4 | h4
    · have := h.2.2 (List.length_eq_zero_iff.1 h4)
      rw [h3] at this
      simp at this
    · exact h4
theorem relW_append {w wr w1 : World} {acc : List Int} {v v' : Value} {x : Int} {o : Obj} (h : RelW w wr acc v)
    (hown : w1.ownsRow w.heap.size 26 1 v' (acc.length + 1) (I32 acc ++ [.int .i32 x])) (hg : (wr.alloc o).grownBy w1 v.ownBlock) : RelW w w1 (acc ++ [x]) v' := by
  refine ⟨by simpa using hown, (h.2.1.alloc h.2.1.size o).grown hg (by have := h.2.1.size; simp; omega) (fun k hk => (h.1.lt k hk).1), fun h => by simp at h⟩

theorem take_getD (Z : List Int) (j len : Nat) (hj : j < len) : (Z.take len).getD j 0 = Z.getD j 0 := by
  simp [hj]

theorem num_bounds (n : Nat) (Z : List Int) (len : Nat) (hl : len ≤ Z.length) (_h : ∀ j, j < len → 0 ≤ Z.getD j 0 ∧ Z.getD j 0 ≤ 4294967295) :
    ∀ j, j < len → -1 ≤ ((Z.take len).map (fNum n)).getD j 0 ∧ ((Z.take len).map (fNum n)).getD j 0 < n := by
  intro j hj
  rw [map_getD _ _ _ (by simp; omega)]
  have e1 : 0 ≤ (Z.take len).getD j 0 % ((n : Int) + 1) := Int.emod_nonneg _ (by omega)
  have e2 : (Z.take len).getD j 0 % ((n : Int) + 1) < (n : Int) + 1 := Int.emod_lt_of_pos _ (by omega)
  unfold fNum
  omega

theorem sym_bounds (p : Nat) (Z : List Int) (len : Nat) (hp : 0 < p) (hl : len ≤ Z.length) :
    ∀ j, j < len → 0 ≤ ((Z.take len).map (fSym p)).getD j 0 ∧ ((Z.take len).map (fSym p)).getD j 0 < p := by
  intro j hj
  rw [map_getD _ _ _ (by simp; omega)]
  have e1 : 0 ≤ (Z.take len).getD j 0 % (p : Int) := Int.emod_nonneg _ (by omega)
  have e2 : (Z.take len).getD j 0 % (p : Int) < (p : Int) := Int.emod_lt_of_pos _ (by omega)
  unfold fSym
  omega

set_option maxHeartbeats 1000000 in
theorem law_main (a0 : Option Addr) (len0 cap0 : Nat) (a1 : Option Addr) (len1 cap1 : Nat) (a2 : Int) (Z0 Z1 : List Int) (w : World) (h0 : len0 ≤ 1024) (h1 : len1 ≤ 1024)
    (hp : 0 < len1) (c0 : Came w a0 len0 Z0) (c1 : Came w a1 len1 Z1) (w2 : 0 ≤ a2 ∧ a2 ≤ 65535) :
    Calls Yba.prog 3 #[.slice a0 len0 cap0, .slice a1 len1 cap1, .int .u16 a2] w fun e w' => e = .returned (.bool true) ∧ Below w.heap.size w w' := by
  obtain ⟨i0, hi, hz0, hz1, hz2⟩ := info_parts Yba.info26
  go_enter Yba.func3, Yba.ntmps3
  go_wp2_with (at_make; refine wpList_make_full _ rfl (.tmp 36) (.tmp 36) 24 rfl w.heap.size 26 i0 (.int .i32 0) 1 Yba.underlying24 hi hz0 hz1 .i64 .i64 len1 len1 len1 rfl rfl rfl rfl ?c0 ?c1 ?c2 ?_)
  case c0 => rw [hz2]; omega
  case c1 => unfold maxLen; omega
  case c2 => omega
  intro w0 hmade hg0
  have R0 : w0.ownsRow w.heap.size 26 1 (.slice (some ⟨w.heap.size, 0, none⟩) len1 len1) len1 (I32 (fill (fNum (a2 % 300).toNat) Z1 0 len1)) := by
    rw [fill_zero, I32, List.map_replicate, ← toList_madeCells_one]; exact hmade
  have B0 : Below w.heap.size w w0 := (Below.refl _ _).grown hg0 (Nat.le_refl _) (fun k hk => by cases hk)
  clear hmade hg0
  go_wp2
  have hb : 0 ≤ a2 % 300 ∧ a2 % 300 < 300 := by omega
  generalize a2 % 300 = y at *
  clear w2
  obtain ⟨n, rfl⟩ := Int.eq_ofNat_of_zero_le hb.1
  have hn : n < 300 := by omega
  clear hb
  rw [Int.toNat_natCast] at R0
  go_loopw [40] (fun i wr => ∃ k : Nat, k ≤ len1 ∧ i = .int .i64 k ∧ wr.ownsRow w.heap.size 26 1 (.slice (some ⟨w.heap.size, 0, none⟩) len1 len1) len1 (I32 (fill (fNum n) Z1 k len1)) ∧ Below w.heap.size w wr) (fun i _ => len1 - (intOf i).toNat)
  case atStart => exact ⟨0, Nat.zero_le _, rfl, R0, B0⟩
  case round =>
    obtain ⟨k, hk, rfl, hR, hB⟩ := hrel
    clear R0 B0
    by_cases hlt : k < len1
    · obtain ⟨b, off, rfl, hbw, hcell, hr0, hr1⟩ := c1.2 k hlt
      have HF : Hid ((fill (fNum n) Z1 k len1).set k (fNum n (Z1.getD k 0)) = fill (fNum n) Z1 (k + 1) len1) := fill_set _ _ _ _ hlt c1.1
      have hc : wr.cell? ⟨b, off + k, none⟩ = some (.int .u32 (Z1.getD k 0)) := (hB.cell (by exact hbw)).trans hcell
      have hold := cell_own hR k hlt
      have hfz := hR.frozenAt k
      clear hcell
      generalize Z1.getD k 0 = r at *
      generalize (fill (fNum n) Z1 k len1).getD k 0 = old at *
      have e1 : 0 ≤ r % ((n : Int) + 1) := Int.emod_nonneg _ (by omega)
      have e2 : r % ((n : Int) + 1) < (n : Int) + 1 := Int.emod_lt_of_pos _ (by omega)
      go_wp2
      go_roundw
      case rel => exact ⟨k + 1, by omega, by go_num, row_set hR HF.out, hB.setCell (Nat.le_refl _) _⟩
      case measure => simp [intOf]; omega
    · obtain rfl : len1 = k := by omega
      have bN := num_bounds n Z1 len1 c1.1 (fun j hj => by obtain ⟨_, _, _, _, _, h⟩ := c1.2 j hj; exact h)
      rw [fill_all] at hR
      generalize (Z1.take len1).map (fNum n) = N at *
      clear c1
      obtain ⟨p, rfl⟩ : ∃ p, p = len1 := ⟨_, rfl⟩
      obtain ⟨w1, rfl⟩ : ∃ x, x = wr := ⟨_, rfl⟩
      go_wp2_with (at_make; refine wpList_make_full _ rfl (.tmp 60) (.tmp 60) 24 rfl w1.heap.size 26 i0 (.int .i32 0) 1 Yba.underlying24 hi hz0 hz1 .i64 .i64 len0 len0 len0 rfl rfl rfl rfl ?d0 ?d1 ?d2 ?_)
      case d0 => rw [hz2]; omega
      case d1 => unfold maxLen; omega
      case d2 => omega
      intro w3 hmade hg0
      have R0 : w3.ownsRow w1.heap.size 26 1 (.slice (some ⟨w1.heap.size, 0, none⟩) len0 len0) len0 (I32 (fill (fSym p) Z0 0 len0)) := by
        rw [fill_zero, I32, List.map_replicate, ← toList_madeCells_one]; exact hmade
      have B0 : Below w1.heap.size w1 w3 := (Below.refl _ _).grown hg0 (Nat.le_refl _) (fun k hk => by cases hk)
      clear hmade hg0
      go_wp2
      go_loopw [64] (fun i wr => ∃ k : Nat, k ≤ len0 ∧ i = .int .i64 k ∧ wr.ownsRow w1.heap.size 26 1 (.slice (some ⟨w1.heap.size, 0, none⟩) len0 len0) len0 (I32 (fill (fSym p) Z0 k len0)) ∧ Below w1.heap.size w1 wr) (fun i _ => len0 - (intOf i).toNat)
      case atStart => exact ⟨0, Nat.zero_le _, rfl, R0, B0⟩
      case round =>
        obtain ⟨k, hk, rfl, hS, hB2⟩ := hrel
        clear R0 B0
        have hsz := hB.size
        by_cases hlt : k < len0
        · obtain ⟨b, off, rfl, hbw, hcell, hr0, hr1⟩ := c0.2 k hlt
          have HF : Hid ((fill (fSym p) Z0 k len0).set k (fSym p (Z0.getD k 0)) = fill (fSym p) Z0 (k + 1) len0) := fill_set _ _ _ _ hlt c0.1
          have hc : wr.cell? ⟨b, off + k, none⟩ = some (.int .u32 (Z0.getD k 0)) := (hB2.cell (by show b < _; omega)).trans ((hB.cell (by exact hbw)).trans hcell)
          have hold := cell_own hS k hlt
          have hfz := hS.frozenAt k
          clear hcell
          generalize Z0.getD k 0 = r at *
          generalize (fill (fSym p) Z0 k len0).getD k 0 = old at *
          have e1 : 0 ≤ r % (p : Int) := Int.emod_nonneg _ (by omega)
          have e2 : r % (p : Int) < (p : Int) := Int.emod_lt_of_pos _ (by omega)
          go_wp2
          go_roundw
          case rel => exact ⟨k + 1, by omega, by go_num, row_set hS HF.out, hB2.setCell (Nat.le_refl _) _⟩
          case measure => simp [intOf]; omega
        · obtain rfl : len0 = k := by omega
          have bS := sym_bounds p Z0 len0 hp c0.1
          rw [fill_all] at hS
          generalize (Z0.take len0).map (fSym p) = S at *
          clear c0
          obtain ⟨m, rfl⟩ : ∃ p, p = len0 := ⟨_, rfl⟩
          obtain ⟨w4, rfl⟩ : ∃ x, x = wr := ⟨_, rfl⟩
          have hN : w4.ownsRow w.heap.size 26 1 (.slice (some ⟨w.heap.size, 0, none⟩) p p) p (I32 N) := own_later hR hB2
          have B4 : Below w.heap.size w w4 := hB.trans (hB2.mono hsz)
          clear hR hB hB2
          go_wp2_with fail
          refine (clone_own _ _ _ _ N _ h1 hN).mono ?_
          rintro e w5 ⟨vNC, rfl, hNC, hB5, hne⟩
          obtain ⟨gNC, cNC, rfl⟩ := some_of hNC hne
          clear hne
          have hN5 := own_later hN hB5
          have hS5 := own_later hS hB5
          have B5 : Below w.heap.size w w5 := B4.trans (hB5.mono B4.size)
          clear hN hS hB5 B4
          go_wp2_with fail
          refine (clone_own _ _ _ _ S _ h0 hS5).mono ?_
          rintro e w6 ⟨vSC, rfl, hSC, hB6, hne⟩
          obtain ⟨gSC, cSC, rfl⟩ := some_of hSC hne
          clear hne
          have hN6 := own_later hN5 hB6
          have hS6 := own_later hS5 hB6
          have hNC6 := own_later hNC hB6
          have B6 : Below w.heap.size w w6 := B5.trans (hB6.mono B5.size)
          clear hN5 hS5 hB6 B5 hNC
          go_wp2_with fail
          refine (number_some _ _ _ _ _ _ _ _ _ S N _ h0 h1 (by omega) hS6 hN6 bS bN).mono ?_
          rintro e w7 ⟨vG, rfl, hG, hB7, hGnil⟩
          have hN7 := own_later hN6 hB7
          have hS7 := own_later hS6 hB7
          have hNC7 := own_later hNC6 hB7
          have hSC7 := own_later hSC hB7
          have B7 : Below w.heap.size w w7 := B6.trans (hB7.mono B6.size)
          clear hN6 hS6 hB7 B6 hNC6 hSC
          go_wp2_with fail
          go_loopw [17, 89] (fun v i wr => ∃ k : Nat, k ≤ m ∧ i = .int .i64 k ∧ RelW w7 wr (upTo N S k) v) (fun _ i _ => m - (intOf i).toNat)
          case atStart => exact ⟨0, Nat.zero_le _, rfl, by rw [upTo_zero]; exact relW_start w7⟩
          case round =>
            obtain ⟨k, hk, rfl, hR⟩ := hrel
            by_cases hlt : k < m
            · have hx := bS k hlt
              have lS : S.length = m := by simpa using hS7.1
              have hsc : wr.cell? ⟨gSC, k, none⟩ = some (.int .i32 (S.getD k 0)) := (hR.2.1.cell (by exact (hSC7.lt _ rfl).2)).trans (cell_own hSC7 k hlt)
              have HU : Hid (upTo N S (k + 1) = step (upTo N S k) (N.getD (S.getD k 0).toNat 0)) := upTo_succ N S k (by rw [lS]; exact hlt)
              have hlen := upTo_len N S k (by rw [lS]; exact hk)
              clear lS
              generalize S.getD k 0 = s at *
              have hy := bN s.toNat (by omega)
              have hnc : wr.cell? ⟨gNC, s.toNat, none⟩ = some (.int .i32 (N.getD s.toNat 0)) := (hR.2.1.cell (by exact (hNC7.lt _ rfl).2)).trans (cell_own hNC7 _ (by omega))
              generalize N.getD s.toNat 0 = x at *
              generalize upTo N S k = acc at *
              by_cases hx1 : x = -1
              · go_wp2
                go_roundw
                case rel => exact ⟨k + 1, by omega, by go_num, by rw [HU.out, step_skip (.inl hx1)]; exact hR⟩
                case measure => simp [intOf]; omega
              · have hx1b : (x == -1) = false := beq_eq_false_iff_ne.2 hx1
                have hszw := hR.2.1.size
                rcases relW_form hR with ⟨rfl, hacc⟩ | ⟨g, c, rfl, _⟩
                · subst hacc
                  go_wp2
                  refine wp_loop_rounds 1 ?_
                  rw [rounds_succ]
                  go_wp2_with (at_builtin; refine wpList_append_own _ rfl (.tmp 111) (.tmp 113) 24 rfl w7.heap.size 26 i0 (.int .i32 0) 1 4 Yba.underlying24 hi hz0 hz1 hz2 rfl (by decide) _ _ _ rfl (hR.1.alloc _) ⟨wr.heap.size, 0, none⟩ 1 1 [.int .i32 x] rfl rfl ?e1 ?e2 ?e3 ?e4 ?e5 ?_)
                  case e1 => exact cell_new rfl
                  case e2 => intro u hu; simp at hu; subst hu; rfl
                  case e3 => simp [maxLen]
                  case e4 => simp
                  case e5 => simp; omega
                  intro v' w8 hown hgrow _
                  have R1 := relW_append hR hown hgrow
                  clear hown hgrow hR
                  go_wp2
                  go_roundw
                  case rel => exact ⟨k + 1, by omega, by go_num, by rw [HU.out, step_take hx1 (by simp)]; exact R1⟩
                  case measure => simp [intOf]; omega
                · go_wp2
                  go_loop [21, 101] (fun d i => ∃ j : Nat, j ≤ acc.length ∧ i = .int .i64 j ∧ d = .bool false ∧ ∀ t, t < j → acc.getD t 0 ≠ x) (fun _ i => acc.length - (intOf i).toNat)
                  case atStart => exact ⟨0, Nat.zero_le _, rfl, rfl, fun t ht => absurd ht (by omega)⟩
                  case round =>
                    obtain ⟨j, hj, rfl, rfl, hno⟩ := hrel
                    have HN : Hid (∀ t, t < j → acc.getD t 0 ≠ x) := hno
                    clear hno
                    by_cases hjl : j < acc.length
                    · have hac := cell_own hR.1 j hjl
                      by_cases heq : acc.getD j 0 = x
                      · have heqb : (acc.getD j 0 == x) = true := beq_iff_eq.2 heq
                        have hmem : x ∈ acc := by rw [← heq]; simp [List.getElem?_eq_getElem hjl]
                        rw [heq] at hac
                        clear heqb heq
                        go_wp2
                        go_roundw
                        case rel => exact ⟨k + 1, by omega, by go_num, by rw [HU.out, step_skip (.inr hmem)]; exact hR⟩
                        case measure => simp [intOf]; omega
                      · have HE : Hid (acc.getD j 0 ≠ x) := heq
                        obtain ⟨y, hy⟩ : ∃ y, y = acc.getD j 0 := ⟨_, rfl⟩
                        rw [← hy] at hac heq
                        have heqb : (y == x) = false := beq_eq_false_iff_ne.2 heq
                        clear heq hy
                        go_wp2
                        go_round
                        case rel => exact ⟨j + 1, by omega, by go_num, rfl, fun t ht => by by_cases htj : t = j; · rw [htj]; exact HE.out
                                                                                           · exact HN.out t (by omega)⟩
                        case measure => simp [intOf]; omega
                    · have hnm : x ∉ acc := by
                        intro h
                        obtain ⟨t, ht, he⟩ := List.getElem_of_mem h
                        exact HN.out t (by omega) (by simp [List.getElem?_eq_getElem ht, he])
                      go_wp2_with (at_builtin; refine wpList_append_own _ rfl (.tmp 111) (.tmp 113) 24 rfl w7.heap.size 26 i0 (.int .i32 0) 1 4 Yba.underlying24 hi hz0 hz1 hz2 rfl (by decide) _ _ _ rfl (hR.1.alloc _) ⟨wr.heap.size, 0, none⟩ 1 1 [.int .i32 x] rfl rfl ?f1 ?f2 ?f3 ?f4 ?f5 ?_)
                      case f2 => rfl
                      case f3 => unfold maxLen; omega
                      case f4 => omega
                      case f5 => omega
                      intro v' w8 hown hgrow _
                      have R1 := relW_append hR hown hgrow
                      clear hown hgrow hR
                      go_wp2
                      go_roundw
                      case rel => exact ⟨k + 1, by omega, by go_num, by rw [HU.out, step_take hx1 hnm]; exact R1⟩
                      case measure => simp [intOf]; omega
            · obtain rfl : m = k := by omega
              have hbw := hR.2.1
              have hN8 := own_later hN7 hbw
              have hS8 := own_later hS7 hbw
              have hNC8 := own_later hNC7 hbw
              have hSC8 := own_later hSC7 hbw
              have hG8 := own_later hG hbw
              have B8 : Below w.heap.size w wr := B7.trans (hbw.mono B7.size)
              have hlen := upTo_len N S m (by rw [show S.length = m by simpa using hS7.1]; exact Nat.le_refl _)
              have hW := hR.1
              have hWf := relW_form hR
              clear hR hbw hN7 hS7 hNC7 hSC7 hG B7
              generalize upTo N S m = acc at *
              have hnn := fun (w : World) (a : Option Addr) (n c n' c' : Nat) => run_neq_slice_nil_any (P := Yba.prog) w 24 26 a n c n' c' Yba.underlying24
              rcases hWf with ⟨rfl, hacc⟩ | ⟨g, c, rfl, hpos⟩
              · obtain rfl := hGnil hacc
                go_wp2_with fail
                refine (equal_any _ _ _ _ _ N _ h1 hN8 hNC8).mono ?_
                rintro e w9 ⟨rfl, q, rfl⟩
                go_wp2_with fail
                refine (equal_any _ _ _ _ _ S _ h0 (by exact hS8) (by exact hSC8)).mono ?_
                rintro e w9 ⟨rfl, q', rfl⟩
                go_wp2
                go_ret
                exact ⟨rfl, below_drewN B8 _⟩
              · obtain ⟨gG, cG, rfl⟩ : ∃ gG cG, vG = .slice (some ⟨gG, 0, none⟩) acc.length cG := by
                  rcases hG8.2 with ⟨_, h⟩ | ⟨gG, cG, _, h, _⟩
                  · omega
                  · exact ⟨gG, cG, h⟩
                go_wp2_with fail
                refine (equal_any _ _ _ _ _ acc _ (by omega) hG8 hW).mono ?_
                rintro e w9 ⟨rfl, q, rfl⟩
                go_wp2_with fail
                refine (equal_any _ _ _ _ _ N _ h1 (by exact hN8) (by exact hNC8)).mono ?_
                rintro e w9 ⟨rfl, q', rfl⟩
                go_wp2_with fail
                refine (equal_any _ _ _ _ _ S _ h0 (by exact hS8) (by exact hSC8)).mono ?_
                rintro e w9 ⟨rfl, q'', rfl⟩
                go_wp2
                go_ret
                exact ⟨rfl, below_drewN B8 _⟩

set_option maxHeartbeats 1000000 in
/-- No number: no symbol either. -/
theorem law_none (a0 : Option Addr) (len0 cap0 : Nat) (a1 : Option Addr) (cap1 : Nat) (a2 : Int) (w : World) (h0 : len0 ≤ 1024) (w2 : 0 ≤ a2 ∧ a2 ≤ 65535) :
    Calls Yba.prog 3 #[.slice a0 len0 cap0, .slice a1 0 cap1, .int .u16 a2] w fun e w' => e = .returned (.bool true) ∧ Below w.heap.size w w' := by
  obtain ⟨i0, hi, hz0, hz1, hz2⟩ := info_parts Yba.info26
  have hnn := fun (w : World) (a : Option Addr) (n c n' c' : Nat) => run_neq_slice_nil_any (P := Yba.prog) w 24 26 a n c n' c' Yba.underlying24
  go_enter Yba.func3, Yba.ntmps3
  go_wp2_with (at_make; refine wpList_make_full _ rfl (.tmp 36) (.tmp 36) 24 rfl w.heap.size 26 i0 (.int .i32 0) 1 Yba.underlying24 hi hz0 hz1 .i64 .i64 0 0 0 rfl rfl rfl rfl ?c0 ?c1 ?c2 ?_)
  case c0 => simp
  case c1 => simp
  case c2 => omega
  intro w0 hmade hg0
  have hN : w0.ownsRow w.heap.size 26 1 (.slice (some ⟨w.heap.size, 0, none⟩) 0 0) 0 (I32 []) := by
    rw [toList_madeCells_one] at hmade; exact hmade
  have B0 : Below w.heap.size w w0 := (Below.refl _ _).grown hg0 (Nat.le_refl _) (fun k hk => by cases hk)
  clear hmade hg0
  go_wp2
  have hb : 0 ≤ a2 % 300 ∧ a2 % 300 < 300 := by omega
  generalize a2 % 300 = y at *
  clear w2
  obtain ⟨n, rfl⟩ := Int.eq_ofNat_of_zero_le hb.1
  have hn : n < 300 := by omega
  clear hb
  refine wp_loop_rounds 1 ?_
  rw [rounds_succ]
  go_wp2_with fail
  refine (clone_own _ _ _ _ [] _ (by omega) hN).mono ?_
  rintro e w5 ⟨vNC, rfl, hNC, hB5, hne⟩
  obtain ⟨gNC, cNC, rfl⟩ := some_of hNC hne
  clear hne
  have hN5 := own_later hN hB5
  have B5 : Below w.heap.size w w5 := B0.trans (hB5.mono B0.size)
  clear hN hB5 B0
  go_wp2_with fail
  refine (clone_nil _).mono ?_
  rintro e w6 ⟨rfl, rfl⟩
  go_wp2_with fail
  refine (number_nil _ _ _ (by omega)).mono ?_
  rintro e w7 ⟨rfl, hB7⟩
  have hN7 := own_later hN5 hB7
  have hNC7 := own_later hNC hB7
  have B7 : Below w.heap.size w w7 := B5.trans (hB7.mono B5.size)
  clear hN5 hB7 B5 hNC
  go_wp2_with fail
  refine wp_loop_rounds 1 ?_
  rw [rounds_succ]
  go_wp2_with fail
  refine (equal_any _ _ _ _ _ [] _ (by omega) hN7 hNC7).mono ?_
  rintro e w9 ⟨rfl, q, rfl⟩
  go_wp2_with fail
  refine (equal_none _ _ _ _ _).mono ?_
  rintro e w9 ⟨rfl, q', rfl⟩
  go_wp2
  go_ret
  exact ⟨rfl, below_drewN B7 _⟩
end Go.Proofs.Ybulkboqs.Cm
