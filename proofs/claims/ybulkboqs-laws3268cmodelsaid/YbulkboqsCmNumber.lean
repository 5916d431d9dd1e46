import Derived.Test.YbulkboqsCmClone
import Derived.Test.YbulkboqsCmPlain
namespace Go.Proofs.Ybulkboqs.Cm
open Go.RowKit Go

theorem Yba.info4 : (Yba.prog.info? 4).map (fun i => (i.zero, i.size, i.bytes)) = some (some (.bool false), 1, 1) := by kernel_rfl

/-- What is owned stays owned where nothing below the heap's old size has turned. -/
theorem own_below {w w' : World} {base : Nat} {e : TypeId} {size : Nat} {v : Value} {n : Nat} {xs : List Value} (h : w.ownsRow base e size v n xs) {B : Nat} (hb : Below B w w') (hB : ∀ k, v.ownBlock = some k → k < B) : w'.ownsRow base e size v n xs := by
  obtain ⟨h1, h2⟩ := h
  refine ⟨h1, ?_⟩
  rcases h2 with h2 | ⟨g, cap, cur, rfl, hg, hh, r⟩
  · exact Or.inl h2
  · exact Or.inr ⟨g, cap, cur, rfl, hg, by rw [hb.block g (hB g rfl)]; exact hh, r⟩

theorem own_later {w w' : World} {base : Nat} {e : TypeId} {size : Nat} {v : Value} {n : Nat} {xs : List Value} (h : w.ownsRow base e size v n xs) (hb : Below w.heap.size w w') : w'.ownsRow base e size v n xs :=
  own_below h hb fun k hk => (h.lt k hk).2

theorem cell_new {w : World} {v : Value} {t : TypeId} {b : Nat} (hb : b = w.heap.size) : ∀ j u, [v][j]? = some u → (w.alloc (.cells #[v] t)).cell? ((⟨b, 0, none⟩ : Addr).add j) = some u := by
  subst hb; exact cell_one_new _ _ _

theorem own_base {w : World} {base base' : Nat} {e : TypeId} {size : Nat} {v : Value} {n : Nat} {xs : List Value} (h : w.ownsRow base e size v n xs) (hb : base' ≤ base) : w.ownsRow base' e size v n xs := by
  obtain ⟨h1, h2⟩ := h
  refine ⟨h1, ?_⟩
  rcases h2 with h2 | ⟨g, cap, cur, rfl, hg, r⟩
  · exact Or.inl h2
  · exact Or.inr ⟨g, cap, cur, rfl, by omega, r⟩

/-- What holds of numberOnce's own memory when 'acc' has been gathered. -/
def Rel (w wr : World) (n : Nat) (acc : List Int) (v : Value) : Prop :=
  wr.ownsRow (w.heap.size + 1) 26 1 v acc.length (I32 acc) ∧ wr.ownsRow w.heap.size 4 1 (.slice (some ⟨w.heap.size, 0, none⟩) n n) n (seenL n acc) ∧ Below w.heap.size w wr ∧ (acc = [] → v = .slice none 0 0)

theorem rel_start {w wr : World} {n : Nat} (h : wr.ownsRow w.heap.size 4 1 (.slice (some ⟨w.heap.size, 0, none⟩) n n) n (madeCells #[Value.bool false] n).toList) (hg : w.grownBy wr .none) : Rel w wr n [] (.slice .none 0 0) := by
  refine ⟨World.ownsRow_nil _ _ _ _, ?_, (Below.refl _ _).grown hg (Nat.le_refl _) (fun k hk => by cases hk), fun _ => rfl⟩
  rw [seenL_nil, ← toList_madeCells_one]
  exact h

theorem rel_seen {w wr : World} {n : Nat} {acc : List Int} {v : Value} (h : Rel w wr n acc v) (x : Int) (h0 : 0 ≤ x) (h1 : x < n) : wr.cell? ⟨w.heap.size, x.toNat, .none⟩ = some (.bool (decide (x ∈ acc))) := by
  rw [h.2.1.cellAt _ (by omega), seenL_at _ _ _ h0 h1]

theorem rel_size {w wr : World} {n : Nat} {acc : List Int} {v : Value} (h : Rel w wr n acc v) : w.heap.size + 1 ≤ wr.heap.size := (h.2.1.lt _ rfl).2

theorem rel_store {w wr : World} {n : Nat} {acc : List Int} {v : Value} (h : Rel w wr n acc v) (x : Int) (h0 : 0 ≤ x) (h1 : x < n) :
    (wr.setCell ⟨w.heap.size, x.toNat, .none⟩ (.bool true)).ownsRow (w.heap.size + 1) 26 1 v acc.length (I32 acc) ∧
    (wr.setCell ⟨w.heap.size, x.toNat, .none⟩ (.bool true)).ownsRow w.heap.size 4 1 (.slice (some ⟨w.heap.size, 0, none⟩) n n) n (seenL n (acc ++ [x])) ∧
    Below w.heap.size w (wr.setCell ⟨w.heap.size, x.toNat, .none⟩ (.bool true)) := by
  refine ⟨ownsRow_setCell_below h.1 (Nat.lt_succ_self _) _, ?_, h.2.2.1.setCell (Nat.le_refl _) _⟩
  rw [← seenL_set n acc x h0 h1]
  exact (h.2.1.stored _ _).1

theorem rel_append {w wr w1 : World} {n : Nat} {acc : List Int} {v v' : Value} {x : Int} {o : Obj} (hout : wr.ownsRow (w.heap.size + 1) 26 1 v acc.length (I32 acc))
    (hseen : wr.ownsRow w.heap.size 4 1 (.slice (some ⟨w.heap.size, 0, none⟩) n n) n (seenL n (acc ++ [x]))) (hb : Below w.heap.size w wr)
    (hown : w1.ownsRow (w.heap.size + 1) 26 1 v' (acc.length + 1) (I32 acc ++ [.int .i32 x])) (hg : (wr.alloc o).grownBy w1 v.ownBlock) : Rel w w1 n (acc ++ [x]) v' := by
  refine ⟨by simpa using hown, (hseen.alloc o).kept hg (.inr ?_), (hb.alloc hb.size o).grown hg (by have := hb.size; simp; omega) (fun k hk => by have := hout.lt k hk; omega), fun h => by simp at h⟩
  intro h
  have := hout.lt w.heap.size (by simpa [Value.ownBlock] using h.symm)
  omega

set_option maxHeartbeats 1000000 in
theorem number_some (gs cs bs m gn cn bn p n : Nat) (S N : List Int) (w : World) (hm : m ≤ 1024) (_hp : p ≤ 1024) (hn : n ≤ 300)
    (hS : w.ownsRow bs 26 1 (.slice (some ⟨gs, 0, none⟩) m cs) m (I32 S)) (hN : w.ownsRow bn 26 1 (.slice (some ⟨gn, 0, none⟩) p cn) p (I32 N))
    (bS : ∀ j, j < m → 0 ≤ S.getD j 0 ∧ S.getD j 0 < p) (bN : ∀ j, j < p → -1 ≤ N.getD j 0 ∧ N.getD j 0 < n) :
    Calls Yba.prog 5 #[.slice (some ⟨gs, 0, none⟩) m cs, .slice (some ⟨gn, 0, none⟩) p cn, .int .i64 n] w fun e w' =>
      ∃ v, e = .returned v ∧ w'.ownsRow w.heap.size 26 1 v (upTo N S m).length (I32 (upTo N S m)) ∧ Below w.heap.size w w' ∧ (upTo N S m = [] → v = .slice none 0 0) := by
  obtain ⟨i0, hi, hz0, hz1, hz2⟩ := info_parts Yba.info26
  obtain ⟨i1, hj, hj0, hj1, hj2⟩ := info_parts Yba.info4
  have lS : S.length = m := by simpa using hS.1
  have LS : Hid (S.length = m) := lS
  clear lS
  have gsB : gs < w.heap.size := (hS.lt gs rfl).2
  have gnB : gn < w.heap.size := (hN.lt gn rfl).2
  go_enter Yba.func5, Yba.ntmps5
  go_wp2_with (at_make; refine wpList_make_full _ rfl (.tmp 12) (.tmp 12) 31 rfl w.heap.size 4 i1 (.bool false) 1 Yba.underlying31 hj hj0 hj1 .i64 .i64 n n n rfl rfl rfl rfl ?c0 ?c1 ?c2 ?_)
  case c0 => rw [hj2]; omega
  case c1 => unfold maxLen; omega
  case c2 => omega
  intro w0 hmade hg0
  have R0 := rel_start hmade hg0
  clear hmade hg0
  go_wp2
  go_loopw [7, 16] (fun v i wr => ∃ k : Nat, k ≤ m ∧ i = .int .i64 k ∧ Rel w wr n (upTo N S k) v) (fun _ i _ => m - (intOf i).toNat)
  case atStart => exact ⟨0, Nat.zero_le _, rfl, by rw [upTo_zero]; exact R0⟩
  case round =>
    obtain ⟨k, hk, rfl, hR⟩ := hrel
    clear R0
    by_cases hlt : k < m
    · have hx := bS k hlt
      have hsc : wr.cell? ⟨gs, k, none⟩ = some (.int .i32 (S.getD k 0)) := (hR.2.2.1.cell (by exact gsB)).trans (cell_own hS k hlt)
      have HU : Hid (upTo N S (k + 1) = step (upTo N S k) (N.getD (S.getD k 0).toNat 0)) := upTo_succ N S k (by rw [LS.out]; exact hlt)
      have hlen := upTo_len N S k (by rw [LS.out]; exact hk)
      generalize S.getD k 0 = s at *
      have hy := bN s.toNat (by omega)
      have hnc : wr.cell? ⟨gn, s.toNat, none⟩ = some (.int .i32 (N.getD s.toNat 0)) := (hR.2.2.1.cell (by exact gnB)).trans (cell_own hN _ (by omega))
      generalize N.getD s.toNat 0 = x at *
      generalize upTo N S k = acc at *
      by_cases hx1 : x = -1
      · go_wp2
        go_roundw
        case rel => exact ⟨k + 1, by omega, by go_num, by rw [HU.out, step_skip (.inl hx1)]; exact hR⟩
        case measure => simp [intOf]; omega
      · have hsn := rel_seen hR x (by omega) (by omega)
        by_cases hmem : x ∈ acc
        · rw [decide_eq_true hmem] at hsn
          go_wp2
          go_roundw
          case rel => exact ⟨k + 1, by omega, by go_num, by rw [HU.out, step_skip (.inr hmem)]; exact hR⟩
          case measure => simp [intOf]; omega
        · rw [decide_eq_false hmem] at hsn
          have hfz := hR.2.1.frozenAt x.toNat
          have RS := rel_store hR x (by omega) (by omega)
          have hsz := rel_size hR
          go_wp2_with (at_builtin; refine wpList_append_own _ rfl (.tmp 36) (.tmp 38) 24 rfl (w.heap.size + 1) 26 i0 (.int .i32 0) 1 4 Yba.underlying24 hi hz0 hz1 hz2 rfl (by decide) _ _ _ rfl (RS.1.alloc _) ⟨wr.heap.size, 0, none⟩ 1 1 [.int .i32 x] rfl rfl ?d1 ?d2 ?d3 ?d4 ?d5 ?_)
          case d1 => exact cell_new (by simp)
          case d2 => intro u hu; simp at hu; subst hu; rfl
          case d3 => unfold maxLen; omega
          case d4 => omega
          case d5 => simp; omega
          intro v' w1 hown hgrow _
          have R1 := rel_append RS.1 RS.2.1 RS.2.2 hown hgrow
          clear hown hgrow RS hR hsn hfz
          go_wp2
          go_roundw
          case rel => exact ⟨k + 1, by omega, by go_num, by rw [HU.out, step_take hx1 hmem]; exact R1⟩
          case measure => simp [intOf]; omega
    · have hkm : k = m := by omega
      subst hkm
      go_wp2
      go_ret
      exact ⟨_, rfl, own_base hR.1 (by omega), hR.2.2.1, hR.2.2.2⟩

set_option maxHeartbeats 400000 in
/-- No symbol. -/
theorem number_nil (v : Value) (n : Nat) (w : World) (hn : n ≤ 300) :
    Calls Yba.prog 5 #[.slice none 0 0, v, .int .i64 n] w fun e w' => e = .returned (.slice none 0 0) ∧ Below w.heap.size w w' := by
  obtain ⟨i1, hj, hj0, hj1, hj2⟩ := info_parts Yba.info4
  go_enter Yba.func5, Yba.ntmps5
  go_wp2_with (at_make; refine wpList_make_full _ rfl (.tmp 12) (.tmp 12) 31 rfl w.heap.size 4 i1 (.bool false) 1 Yba.underlying31 hj hj0 hj1 .i64 .i64 n n n rfl rfl rfl rfl ?c0 ?c1 ?c2 ?_)
  case c0 => rw [hj2]; omega
  case c1 => unfold maxLen; omega
  case c2 => omega
  intro w0 hmade hg0
  have R0 := (rel_start hmade hg0).2.2.1
  clear hmade hg0
  go_wp2
  refine wp_loop_rounds 1 ?_
  rw [rounds_succ]
  go_wp2
  go_ret
  exact ⟨rfl, R0⟩
end Go.Proofs.Ybulkboqs.Cm
