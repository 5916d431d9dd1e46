import Derived.Test.YbulkboqsFmtRpHidden
import Derived.Deep.RegionLaw
import Derived.Laws.AppendOwnNone
namespace Go.Proofs.YbulkboqsFmt.Rp
open Go.RowKit Go Go.Maps

/-- append onto a row of the call's own, as one step of a region that draws. -/
theorem step_append_own_at {P : Program} {ops : Array Oper} {o : Oper} {a : Act} {w : World} {K : Act → World → Prop} {Q : Exit → Act → World → Prop} {E : Prop}
    (hg : o.guard = none) (s x : Operand) (t : TypeId) (hop : o.op = Op.call { callee := Callee.builtin Builtin.append, args := #[s, x], argTypes := #[t, t] })
    (base : Nat) (e : TypeId) (i : TypeInfo) (z : Value) (size bytes : Nat) (h1 : P.underlying t = some (.slice e)) (h2 : P.info? e = some i) (h3 : i.zero = some z) (h4 : i.size = size) (h5 : i.bytes = bytes) (h6 : z.cells.size = size) (h7 : 0 < size)
    (v : Value) (n : Nat) (xs : List Value) (hs : a.eval s = v) (hown : w.ownsRow base e size v n xs)
    (ad : Addr) (m c : Nat) (news : List Value) (hx : a.eval x = .slice (some ad) m c) (hn : news.length = m * size) (hc : ∀ j u, news[j]? = some u → w.cell? (ad.add j) = some u) (h1c : ∀ u ∈ news, u.oneCell' = true)
    (b1 : n + m ≤ maxLen) (b2 : (n + m) * bytes ≤ 140737488355328) (b3 : base ≤ w.heap.size)
    (hK : ∀ v' w', w'.ownsRow base e size v' (n + m) (xs ++ news) → w.grownBy w' v.ownBlock → (v' = .slice none 0 0 ↔ v = .slice none 0 0 ∧ m = 0) → (v'.ownBlock = v.ownBlock ∨ v'.ownBlock = some w.heap.size) → K (a.put o.dst v') w') :
    if Region.wanted o (yielded ops a.tmps) = true then Oper.wp P o a w K Q else E := by
  have hw : Region.wanted o (yielded ops a.tmps) = true := by simp [Region.wanted, hg]
  rw [if_pos hw]
  obtain ⟨v', w', hrun, r1, r2, r3, r4⟩ := run_append_own_at (P := P) w base t o.type e i z size bytes h1 h2 h3 h4 h5 h6 h7 v n xs hown ad m c news hn hc h1c b1 b2 b3
  unfold Oper.wp
  simp [execOp, hop, resolve, invoke, builtin, hs, hx, hrun, Result.andThen]
  exact hK v' w' r1 r2 r3 r4

theorem p3 : at5 3 := .inr (.inl rfl)
theorem p4 : at5 4 := .inr (.inr (.inl rfl))
theorem p5 : at5 5 := .inr (.inr (.inr (.inl rfl)))

theorem cells_keep {S : Nat → Prop} {w w' : World} {b g n c : Nat} {e : TypeId} {ys : List Value} (h : w.ownsRow b e 1 (.slice (some ⟨g, 0, none⟩) n c) n ys) (hk : Keeps S w w') (hg : ¬ S g) : w'.ownsRow b e 1 (.slice (some ⟨g, 0, none⟩) n c) n ys := by
  obtain ⟨h1, h2⟩ := h
  refine ⟨h1, ?_⟩
  rcases h2 with ⟨h2, _⟩ | ⟨g', cap, cur, hv, hb, hh, r⟩
  · simp at h2
  · have e : g' = g := by simp at hv; exact hv.1.symm
    subst e
    exact .inr ⟨g', cap, cur, hv, hb, (hk.block g' (lt_of_block hh) hg).trans hh, r⟩

set_option maxHeartbeats 1000000 in
theorem AddRule_some (S : Nat → Prop) (L : Nat) (ids : Value) (hlp : Nat) (V : Nat → Value) (N : Nat → Nat) (lhs : Int) (gr cr m : Nat) (ys : List Value) (w : World) (h : Bld w S L ids hlp V N) (hN : ∀ i, at5 i → N i ≤ 100000)
    (hm : m ≤ 3) (hm1 : 1 ≤ m) (hr : w.ownsRow 0 54 1 (.slice (some ⟨gr, 0, none⟩) m cr) m ys) (hy1c : ∀ u ∈ ys, u.oneCell' = true) (hgr : ¬ S gr) :
    Calls Ybaf.prog 15 #[.pointer (some ⟨L, 1, none⟩), .int .i32 lhs, .slice (some ⟨gr, 0, none⟩) m cr] w fun e w' => e = .returned (.tuple #[]) ∧ After S w w' L ids hlp N (N 2) 3 := by
  obtain ⟨i3, hi3, hz0, hz1, hz2⟩ := info_parts Ybaf.info3
  obtain ⟨i54, hi54, hy0, hy1, hy2⟩ := info_parts Ybaf.info54
  obtain ⟨a3, c3, f3⟩ := h.form 3 p3
  obtain ⟨a4, c4, f4⟩ := h.form 4 p4
  obtain ⟨a5, c5, f5⟩ := h.form 5 p5
  have b3 := hN 3 p3
  have b4 := hN 4 p4
  have b5 := hN 5 p5
  obtain ⟨xs3, o3⟩ := h.row 3 p3
  have k3 : w.cell? ⟨L, 3, none⟩ = some (.slice a3 (N 3) c3) := h.cell (by rw [← f3]; rfl)
  have O3 : w.ownsRow 0 54 1 (.slice a3 (N 3) c3) (N 3) xs3 := by rw [← f3]; exact o3
  have H3 : Hid (V 3 = .slice a3 (N 3) c3) := f3
  have H4 : Hid (V 4 = .slice a4 (N 4) c4) := f4
  have H5 : Hid (V 5 = .slice a5 (N 5) c5) := f5
  clear f3 f4 f5 o3
  go_enter Ybaf.func15, Ybaf.ntmps15
  go_wp2_with (at_builtin; refine wpList_append_own_at _ rfl (.tmp 10) (.tmp 12) 28 rfl 0 54 i54 (.int .i32 0) 1 4 Ybaf.underlying28 hi54 hy0 hy1 hy2 rfl (by decide) _ _ _ rfl (O3.alloc _) ⟨w.heap.size, 0, none⟩ 1 1 [.int .i32 lhs] rfl rfl ?c1 ?c2 ?c3 ?c4 ?c5 ?_)
  case c1 => exact cell_new rfl
  case c2 => intro u hu; simp at hu; subst hu; rfl
  case c3 => unfold maxLen; omega
  case c4 => omega
  case c5 => omega
  intro v' w1 hown hgrow hne hat
  obtain ⟨g, cp, rfl⟩ := some_of hown hne
  obtain ⟨hL1, B1, K1⟩ := step_append (h.start.over (.cells #[.int .i32 lhs] 54)) ((Keeps.refl S w).alloc _) 3 p3 H3.out hown hgrow hat (by simp)
  clear hown hgrow hat O3 hne
  have m3 := cell_of hL1 3 _ rfl
  have m3f := free_of hL1 3
  have m5 : w1.cell? ⟨L, 5, none⟩ = some (.slice a5 (N 5) c5) := cell_of hL1 5 _ (by rw [← H5.out]; rfl)
  obtain ⟨xs5, o5⟩ := B1.row 5 p5
  have O5 : (w1.setCell ⟨L, 3, none⟩ (.slice (some ⟨g, 0, none⟩) (N 3 + 1) cp)).ownsRow 0 54 1 (.slice a5 (N 5) c5) (N 5) xs5 := by rw [← H5.out]; exact o5
  have R1 := cells_keep hr K1 hgr
  clear o5 hL1
  go_wp2_with (at_builtin; refine wpList_append_own_at _ rfl (.tmp 20) (.tmp 21) 28 rfl 0 54 i54 (.int .i32 0) 1 4 Ybaf.underlying28 hi54 hy0 hy1 hy2 rfl (by decide) _ _ _ rfl O5 ⟨gr, 0, none⟩ m cr ys rfl ?d0 ?d1 ?d2 ?d3 ?d4 ?d5 ?_)
  case d0 => exact R1.1
  case d1 => exact R1.cells rfl
  case d2 => exact hy1c
  case d3 => unfold maxLen; omega
  case d4 => omega
  case d5 => omega
  intro v'' w2 hown hgrow hne hat
  obtain ⟨g2, cp2, rfl⟩ := some_of hown (fun e => by have := (hne.1 e).2; omega)
  obtain ⟨hL2, B2, K2⟩ := step_append B1 K1 5 p5 (show upd V 3 _ 5 = _ from H5.out) hown hgrow hat (by simp)
  clear hown hgrow hat O5 hne R1 B1 K1 m3 m3f m5
  have n5 := cell_of hL2 5 _ rfl
  have n5f := free_of hL2 5
  have n4 : w2.cell? ⟨L, 4, none⟩ = some (.slice a4 (N 4) c4) := cell_of hL2 4 _ (by rw [← H4.out]; rfl)
  have n4f := free_of hL2 4
  clear hL2
  go_wp2
  have q4 := B2.cell (i := 4) (v := .slice a4 (N 4) c4) (by rw [← H4.out]; rfl)
  have q4f := B2.free 4
  have q5 := B2.cell (i := 5) (v := .slice (some ⟨g2, 0, none⟩) (N 5 + m) cp2) rfl
  generalize w2.setCell ⟨L, 5, none⟩ (.slice (some ⟨g2, 0, none⟩) (N 5 + m) cp2) = w3 at *
  clear n5 n5f n4 n4f
  obtain ⟨xs4, o4⟩ := B2.row 4 p4
  have O4 : w3.ownsRow 0 3 1 (.slice a4 (N 4) c4) (N 4) xs4 := by rw [← H4.out]; exact o4
  have d3 : Hid (N 4 + 1 ≤ maxLen) := by unfold Hid maxLen; omega
  clear o4
  have hLlt : L < w3.heap.size := B2.lt L B2.inS
  have B2o := (B2.over (.cells #[.int .i64 (N 5 + m : Nat)] 3)).drew
  have K2o := (K2.alloc (.cells #[.int .i64 (N 5 + m : Nat)] 3)).drew
  go_region_law (refine step_append_own_at rfl (.tmp 29) (.tmp 35) 29 rfl 0 3 i3 (.int .i64 0) 1 8 Ybaf.underlying29 hi3 hz0 hz1 hz2 rfl (by decide) (.slice a4 (N 4) c4) (N 4) xs4 (by simp [Act.eval]) (O4.alloc _) ⟨w3.heap.size, 0, none⟩ 1 1 [.int .i64 (N 5 + m : Nat)] (by simp [Act.eval]) rfl (cell_new rfl) (by intro u hu; simp at hu; subst hu; rfl) d3.out (by omega) (by omega) ?_; intro v3 w4 hown hgrow hne hat; obtain ⟨g3, cp3, rfl⟩ := some_of hown (fun e => by have := (hne.1 e).2; omega); obtain ⟨hL3, B3, K3⟩ := step_append B2o K2o 4 p4 (show upd (upd V 3 _) 5 _ 4 = _ from H4.out) hown hgrow hat rfl; have r4 := cell_of hL3 4 _ rfl; have r4f := free_of hL3 4; clear hown hgrow hne hat hL3)
  all_goals
    go_wp2
    go_end0
    refine ⟨rfl, _, _, B3, rfl, fun i hi => ?_, K3⟩
    rcases hi with rfl | rfl | rfl | rfl | rfl <;> simp [upd] <;> omega

set_option maxHeartbeats 1000000 in
theorem AddRule_nil (S : Nat → Prop) (L : Nat) (ids : Value) (hlp : Nat) (V : Nat → Value) (N : Nat → Nat) (lhs : Int) (w : World) (h : Bld w S L ids hlp V N) (hN : ∀ i, at5 i → N i ≤ 100000) :
    Calls Ybaf.prog 15 #[.pointer (some ⟨L, 1, none⟩), .int .i32 lhs, .slice none 0 0] w fun e w' => e = .returned (.tuple #[]) ∧ After S w w' L ids hlp N (N 2) 3 := by
  obtain ⟨i3, hi3, hz0, hz1, hz2⟩ := info_parts Ybaf.info3
  obtain ⟨i54, hi54, hy0, hy1, hy2⟩ := info_parts Ybaf.info54
  obtain ⟨a3, c3, f3⟩ := h.form 3 p3
  obtain ⟨a4, c4, f4⟩ := h.form 4 p4
  obtain ⟨a5, c5, f5⟩ := h.form 5 p5
  have b3 := hN 3 p3
  have b4 := hN 4 p4
  have b5 := hN 5 p5
  obtain ⟨xs3, o3⟩ := h.row 3 p3
  have k3 : w.cell? ⟨L, 3, none⟩ = some (.slice a3 (N 3) c3) := h.cell (by rw [← f3]; rfl)
  have O3 : w.ownsRow 0 54 1 (.slice a3 (N 3) c3) (N 3) xs3 := by rw [← f3]; exact o3
  have H3 : Hid (V 3 = .slice a3 (N 3) c3) := f3
  have H4 : Hid (V 4 = .slice a4 (N 4) c4) := f4
  have H5 : Hid (V 5 = .slice a5 (N 5) c5) := f5
  clear f3 f4 f5 o3
  go_enter Ybaf.func15, Ybaf.ntmps15
  go_wp2_with (at_builtin; refine wpList_append_own_at _ rfl (.tmp 10) (.tmp 12) 28 rfl 0 54 i54 (.int .i32 0) 1 4 Ybaf.underlying28 hi54 hy0 hy1 hy2 rfl (by decide) _ _ _ rfl (O3.alloc _) ⟨w.heap.size, 0, none⟩ 1 1 [.int .i32 lhs] rfl rfl ?c1 ?c2 ?c3 ?c4 ?c5 ?_)
  case c1 => exact cell_new rfl
  case c2 => intro u hu; simp at hu; subst hu; rfl
  case c3 => unfold maxLen; omega
  case c4 => omega
  case c5 => omega
  intro v' w1 hown hgrow hne hat
  obtain ⟨g, cp, rfl⟩ := some_of hown hne
  obtain ⟨hL1, B1, K1⟩ := step_append (h.start.over (.cells #[.int .i32 lhs] 54)) ((Keeps.refl S w).alloc _) 3 p3 H3.out hown hgrow hat (by simp)
  clear hown hgrow hat O3 hne
  have m3 := cell_of hL1 3 _ rfl
  have m3f := free_of hL1 3
  have m5 : w1.cell? ⟨L, 5, none⟩ = some (.slice a5 (N 5) c5) := cell_of hL1 5 _ (by rw [← H5.out]; rfl)
  obtain ⟨xs5, o5⟩ := B1.row 5 p5
  have O5 : (w1.setCell ⟨L, 3, none⟩ (.slice (some ⟨g, 0, none⟩) (N 3 + 1) cp)).ownsRow 0 54 1 (.slice a5 (N 5) c5) (N 5) xs5 := by rw [← H5.out]; exact o5
  have m5f := free_of hL1 5
  have B2 := B1.put (ids' := ids) (hlp' := hlp) 5 (.slice a5 (N 5) c5) (by rw [← H5.out]; rfl)
  have K2 := K1.setCell (p := ⟨L, 5, none⟩) (by rcases B1.inS with h' | h'; exact .inl h'; exact .inr h'.1) (.slice a5 (N 5) c5)
  have B2' : Bld ((w1.setCell ⟨L, 3, none⟩ (.slice (some ⟨g, 0, none⟩) (N 3 + 1) cp)).setCell ⟨L, 5, none⟩ (.slice a5 (N 5) c5)) (Grow S w ((w1.setCell ⟨L, 3, none⟩ (.slice (some ⟨g, 0, none⟩) (N 3 + 1) cp)).setCell ⟨L, 5, none⟩ (.slice a5 (N 5) c5))) L ids hlp (upd V 3 (.slice (some ⟨g, 0, none⟩) (N 3 + 1) cp)) (upd N 3 (N 3 + 1)) :=
    B2.wide (fun k hk => by simpa only [Grow, World.size_setCell] using hk) (fun k hk => B2.lt k (by simpa only [Grow, World.size_setCell] using hk))
  clear o5 hL1 B2
  go_wp2_with (at_builtin; refine wpList_append_own_none rfl (.tmp 20) (.tmp 21) 28 rfl 0 54 i54 1 Ybaf.underlying28 hi54 _ _ _ rfl O5 rfl ?_)
  clear m3 m3f m5 m5f O5 B1 K1
  have q4 := B2'.cell (i := 4) (v := .slice a4 (N 4) c4) (by rw [← H4.out]; rfl)
  have q4f := B2'.free 4
  have q5 := B2'.cell (i := 5) (v := .slice a5 (N 5) c5) (by rw [← H5.out]; rfl)
  generalize (w1.setCell ⟨L, 3, none⟩ (.slice (some ⟨g, 0, none⟩) (N 3 + 1) cp)).setCell ⟨L, 5, none⟩ (.slice a5 (N 5) c5) = w3 at *
  obtain ⟨xs4, o4⟩ := B2'.row 4 p4
  have O4 : w3.ownsRow 0 3 1 (.slice a4 (N 4) c4) (N 4) xs4 := by rw [← H4.out]; exact o4
  have d3 : Hid (N 4 + 1 ≤ maxLen) := by unfold Hid maxLen; omega
  clear o4
  have hLlt : L < w3.heap.size := B2'.lt L B2'.inS
  have B2o := (B2'.over (.cells #[.int .i64 (N 5 : Nat)] 3)).drew
  have K2o := (K2.alloc (.cells #[.int .i64 (N 5 : Nat)] 3)).drew
  go_region_law (refine step_append_own_at rfl (.tmp 29) (.tmp 35) 29 rfl 0 3 i3 (.int .i64 0) 1 8 Ybaf.underlying29 hi3 hz0 hz1 hz2 rfl (by decide) (.slice a4 (N 4) c4) (N 4) xs4 (by simp [Act.eval]) (O4.alloc _) ⟨w3.heap.size, 0, none⟩ 1 1 [.int .i64 (N 5 : Nat)] (by simp [Act.eval]) rfl (cell_new rfl) (by intro u hu; simp at hu; subst hu; rfl) d3.out (by omega) (by omega) ?_; intro v3 w4 hown hgrow hne hat; obtain ⟨g3, cp3, rfl⟩ := some_of hown (fun e => by have := (hne.1 e).2; omega); obtain ⟨hL3, B3, K3⟩ := step_append B2o K2o 4 p4 (show upd V 3 _ 4 = _ from H4.out) hown hgrow hat rfl; have r4 := cell_of hL3 4 _ rfl; have r4f := free_of hL3 4; clear hown hgrow hne hat hL3)
  all_goals
    go_wp2
    go_end0
    refine ⟨rfl, _, _, B3, rfl, fun i hi => ?_, K3⟩
    rcases hi with rfl | rfl | rfl | rfl | rfl <;> simp [upd] <;> omega
end Go.Proofs.YbulkboqsFmt.Rp
