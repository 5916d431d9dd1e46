import Derived.Test.YbulkboqsFmtRpAt
namespace Go.Proofs.YbulkboqsFmt.Rp
open Go.RowKit Go Go.Maps Go.Extern.Stop Go.Stop Go.Extern

theorem law9 : Keyed Ybaf.prog 9 := string_keyed Ybaf.underlying9
/-- The map of the names: at block M, at most n entries, reading as D. -/
def Im (w : World) (M n : Nat) (D : DataW Unit) : Prop := w.ownsMap Ybaf.prog 9 (plainElem Ybaf.prog 54) M n D

theorem Im.keep {T : Nat → Prop} {w w' : World} {U n : Nat} {D : DataW Unit} (h : Im w U n D) (hk : Keeps T w w') (hT : ¬ T U) : Im w' U n D := by
  have hlt := World.ownsMap.lt h
  obtain ⟨es, clock, hb, r⟩ := h
  exact ⟨es, clock, (hk.block U hlt hT).trans hb, r⟩

/-- A map's block is none of the builder's rows. -/
theorem Bld.minus {w : World} {S : Nat → Prop} {L : Nat} {ids : Value} {hlp : Nat} {V : Nat → Value} {N : Nat → Nat} (h : Bld w S L ids hlp V N) {M n : Nat} {D : DataW Unit} (hM : Im w M n D) : Bld w (fun k => S k ∧ k ≠ M) L ids hlp V N := by
  obtain ⟨es, clock, hb, _⟩ := hM
  refine ⟨⟨h.inS, fun e => ?_⟩, fun k hk => h.lt k hk.1, h.cells, h.row, fun i hi k hk => ⟨⟨(h.sub i hi k hk).1, fun e => ?_⟩, (h.sub i hi k hk).2⟩, h.apart⟩
  · have := h.cells; rw [e, hb] at this; simp at this
  · obtain ⟨xs, _, h2⟩ := h.row i hi
    rcases h2 with ⟨h2, _⟩ | ⟨g, cap, cur, hv, _, hh, _⟩
    · rw [h2] at hk; simp [Value.ownBlock] at hk
    · rw [hv] at hk
      simp [Value.ownBlock] at hk
      rw [hk, e, hb] at hh
      simp at hh

/-- A builder's cell that is written while a map's block stands. -/
theorem Im.setCell {w : World} {M n L i : Nat} {D : DataW Unit} {v : Value} (h : Im w M n D) (hne : L ≠ M) : Im (w.setCell ⟨L, i, none⟩ v) M n D :=
  h.keep (T := fun k => k = L) ((Keeps.refl (fun k => k = L) w).setCell (p := ⟨L, i, none⟩) (.inl rfl) v) (fun e => hne e.symm)

set_option maxRecDepth 20000 in
set_option maxHeartbeats 2000000 in
/-- The first name that is asked for. -/
theorem sym_nil (S : Nat → Prop) (L : Nat) (hlp : Nat) (V : Nat → Value) (N : Nat → Nat) (name : ByteArray) (w : World) (h : Bld w S L (.map none) hlp V N) (hN : ∀ i, at5 i → N i ≤ 50000) (hlen : name.size ≤ maxLen) :
    Calls Ybaf.prog 9 #[.pointer (some ⟨L, 1, none⟩), .string name] w fun e w' => e = .returned (.int .i32 (N 2)) ∧ ∃ M V' N', Bld w' (fun k => Grow S w w' k ∧ k ≠ M) L (.map (some M)) hlp V' N' ∧ N' 2 = N 2 + 1 ∧ (∀ i, at5 i → N' i ≤ N i + 1) ∧ Keeps S w w' ∧ w.heap.size ≤ M ∧
      Im w' M 1 ((DataW.map []).put (.string name.data.toList) (.lit (.int .i32 (N 2)))) := by
  obtain ⟨i9, hi9, hz0, hz1, hz2⟩ := info_parts Ybaf.info9
  obtain ⟨a2, c2, f2⟩ := h.form 2 (.inl rfl)
  have b2 := hN 2 (.inl rfl)
  obtain ⟨xs2, o2⟩ := h.row 2 (.inl rfl)
  have k1 : w.cell? ⟨L, 1, none⟩ = some (.map none) := h.cell rfl
  have k1f := h.free 1
  have k2 : w.cell? ⟨L, 2, none⟩ = some (.slice a2 (N 2) c2) := h.cell (by rw [← f2]; rfl)
  have H2 : Hid (V 2 = .slice a2 (N 2) c2) := f2
  have HK := hide (WideMaps.keyOf_string_mk Ybaf.underlying9 hlen)
  have hlk := fun (w : World) => Maps.look_nil (w := w) true law9 Ybaf.underlying26 (zero54 w) (WideMaps.keyOf_string_mk Ybaf.underlying9 hlen)
  have hnl := fun (w : World) => run_eql_map_nil (P := Ybaf.prog) w 26 9 54 none Ybaf.underlying26
  have hmm := @run_makeMap Ybaf.prog
  have hLlt := h.lt L h.inS
  clear f2
  have hs0 : ¬ S w.heap.size := fun hc => by have := h.lt _ hc; omega
  have B1 : Bld ((w.setCell ⟨L, 1, none⟩ (.map (some w.heap.size))).alloc (.map #[] 0)) S L (.map (some w.heap.size)) hlp V N := (h.put 1 (.map (some w.heap.size)) rfl).alloc _
  have K1 : Keeps S w ((w.setCell ⟨L, 1, none⟩ (.map (some w.heap.size))).alloc (.map #[] 0)) := ((Keeps.refl S w).setCell (p := ⟨L, 1, none⟩) (.inl h.inS) _).alloc _
  have M1 : Im ((w.setCell ⟨L, 1, none⟩ (.map (some w.heap.size))).alloc (.map #[] 0)) w.heap.size 0 (.map []) := by
    have := World.ownsMap_made (w.setCell ⟨L, 1, none⟩ (.map (some w.heap.size))) Ybaf.prog 9 (plainElem (H := Unit) Ybaf.prog 54)
    rw [World.size_setCell] at this
    exact this
  clear o2
  go_enter Ybaf.func9, Ybaf.ntmps9
  go_wp2_with (at_mapUpdate; refine wpList_mapUpdate_own _ rfl (.tmp 37) (.tmp 38) (.tmp 39) 26 rfl 9 54 law9 Ybaf.underlying26 _ w.heap.size 0 _ rfl M1 (by decide) _ _ _ rfl rfl HK.out _ [] (plainElem_int Ybaf.underlying54 (WalkArith.wf_i32 (by omega))) ?_)
  intro w2 M2 g2
  have B2 : Bld w2 (Grow S w w2) L (.map (some w.heap.size)) hlp V N := B1.keep (keeps_of_grown g2) (fun k hk => by simp at hk; subst hk; exact hs0) (fun k hk => .inl hk) (fun k hk => by
    rcases hk with hk | hk
    · have := B1.lt k hk; have := g2.size; omega
    · exact hk.2)
  have K2 : Keeps S w w2 := K1.grown g2 (fun k hk => by simp at hk; omega)
  have sz2 : w.heap.size < w2.heap.size := World.ownsMap.lt M2
  have m2 : w2.cell? ⟨L, 2, none⟩ = some (.slice a2 (N 2) c2) := B2.cell (by rw [← H2.out]; rfl)
  obtain ⟨xs, o2⟩ := B2.row 2 (.inl rfl)
  have O2 : w2.ownsRow 0 9 1 (.slice a2 (N 2) c2) (N 2) xs := by rw [← H2.out]; exact o2
  have hn0 : ¬ (Value.slice a2 (N 2) c2).ownBlock = some w.heap.size := by rw [← H2.out]; intro e; exact hs0 (h.sub 2 (.inl rfl) _ e).1
  clear o2 g2 M1 B1 K1
  go_wp2_with (at_builtin; refine wpList_append_own_at _ rfl (.tmp 44) (.tmp 46) 27 rfl 0 9 i9 (.string ⟨#[]⟩) 1 16 Ybaf.underlying27 hi9 hz0 hz1 hz2 rfl (by decide) _ _ _ rfl (O2.alloc _) ⟨w2.heap.size, 0, none⟩ 1 1 [.string name] rfl rfl ?c1 ?c2 ?c3 ?c4 ?c5 ?_)
  case c1 => exact cell_new rfl
  case c2 => intro u hu; simp at hu; subst hu; rfl
  case c3 => unfold maxLen; omega
  case c4 => omega
  case c5 => omega
  intro v' w3 hown hgrow hne hat
  obtain ⟨g, cp, rfl⟩ := some_of hown hne
  obtain ⟨hL3, B3, K3⟩ := step_append (B2.over (.cells #[.string name] 9)) (K2.alloc _) 2 (.inl rfl) H2.out hown hgrow hat (by simp)
  have M3 : Im (w3.setCell ⟨L, 2, none⟩ (.slice (some ⟨g, 0, none⟩) (N 2 + 1) cp)) w.heap.size 1 ((DataW.map []).put (.string name.data.toList) (.lit (.int .i32 (N 2)))) :=
    Im.setCell ((Im.keep M2 (T := fun _ => False) ((Keeps.refl _ _).alloc (.cells #[.string name] 9)) id).keep (keeps_of_grown hgrow) hn0) (by omega)
  clear hown hgrow hat O2 hne
  have m3 := cell_of hL3 2 _ rfl
  have m3f := free_of hL3 2
  clear hL3
  go_wp2
  go_ret
  refine ⟨rfl, w.heap.size, _, _, B3.minus M3, rfl, fun i hi => ?_, K3, Nat.le_refl _, M3⟩
  rcases hi with rfl | rfl | rfl | rfl | rfl <;> simp [upd]

set_option maxRecDepth 20000 in
set_option maxHeartbeats 2000000 in
/-- A name that is new, where some have been asked for. -/
theorem sym_new (S : Nat → Prop) (L : Nat) (hlp : Nat) (V : Nat → Value) (N : Nat → Nat) (M n : Nat) (D : DataW Unit) (name : ByteArray) (w : World) (h : Bld w S L (.map (some M)) hlp V N) (hN : ∀ i, at5 i → N i ≤ 50000) (hlen : name.size ≤ maxLen)
    (hM : Im w M n D) (hSM : ¬ S M) (hn : n < maxLen) (hD : Maps.has D (.string name.data.toList) = false) :
    Calls Ybaf.prog 9 #[.pointer (some ⟨L, 1, none⟩), .string name] w fun e w' => e = .returned (.int .i32 (N 2)) ∧ Keeps (fun k => S k ∨ k = M) w w' := by
  obtain ⟨i9, hi9, hz0, hz1, hz2⟩ := info_parts Ybaf.info9
  obtain ⟨a2, c2, f2⟩ := h.form 2 (.inl rfl)
  have b2 := hN 2 (.inl rfl)
  have k1 : w.cell? ⟨L, 1, none⟩ = some (.map (some M)) := h.cell rfl
  have k2 : w.cell? ⟨L, 2, none⟩ = some (.slice a2 (N 2) c2) := h.cell (by rw [← f2]; rfl)
  have H2 : Hid (V 2 = .slice a2 (N 2) c2) := f2
  have HK := hide (WideMaps.keyOf_string_mk Ybaf.underlying9 hlen)
  have HD := hide hD
  have HN := hide hn
  have hnl := fun (w : World) => run_eql_map_nil (P := Ybaf.prog) w 26 9 54 (some M) Ybaf.underlying26
  clear f2 hD hn
  go_enter Ybaf.func9, Ybaf.ntmps9
  go_wp2_with (first | (at_lookup; refine wpList_lookup_own_ok_int _ rfl (.tmp 12) (.tmp 13) 26 rfl 9 54 .i32 law9 Ybaf.underlying26 Ybaf.underlying54 (zero54 _) M n D rfl hM _ _ rfl HK.out ?_; intro c hat hwc; rw [HD.out]; clear hat hwc) | (at_mapUpdate; refine wpList_mapUpdate_own _ rfl (.tmp 37) (.tmp 38) (.tmp 39) 26 rfl 9 54 law9 Ybaf.underlying26 _ M n _ rfl hM HN.out _ _ _ rfl rfl HK.out _ [] (plainElem_int Ybaf.underlying54 (WalkArith.wf_i32 (by omega))) ?_))
  intro w2 M2 g2
  have B2 : Bld w2 (Grow S w w2) L (.map (some M)) hlp V N := h.keep (keeps_of_grown g2) (fun k hk => by simp at hk; subst hk; exact hSM) (fun k hk => .inl hk) (fun k hk => by
    rcases hk with hk | hk
    · have := h.lt k hk; have := g2.size; omega
    · exact hk.2)
  have K2 : Keeps (fun k => S k ∨ k = M) w w2 := (Keeps.refl _ w).grown g2 (fun k hk => by simp at hk; exact .inl (.inr hk.symm))
  have m2 : w2.cell? ⟨L, 2, none⟩ = some (.slice a2 (N 2) c2) := B2.cell (by rw [← H2.out]; rfl)
  obtain ⟨xs, o2⟩ := B2.row 2 (.inl rfl)
  have O2 : w2.ownsRow 0 9 1 (.slice a2 (N 2) c2) (N 2) xs := by rw [← H2.out]; exact o2
  have hrow : ∀ k, (Value.slice a2 (N 2) c2).ownBlock = some k → (S k ∨ k = M) ∨ w.heap.size ≤ k := by rw [← H2.out]; intro k hk; exact .inl (.inl (h.sub 2 (.inl rfl) k hk).1)
  have hLS : (S L ∨ L = M) ∨ w.heap.size ≤ L := .inl (.inl h.inS)
  have hL2 : w2.heap[L]? = some (.cells (bc (.map (some M)) V hlp) 40 (0, 0)) := B2.cells
  have hLlt := lt_of_block hL2
  have hLb : some L ≠ (Value.slice a2 (N 2) c2).ownBlock := by rw [← H2.out]; intro e; exact (h.sub 2 (.inl rfl) L e.symm).2 rfl
  clear o2 g2 hM
  go_wp2_with (at_builtin; refine wpList_append_own_at _ rfl (.tmp 44) (.tmp 46) 27 rfl 0 9 i9 (.string ⟨#[]⟩) 1 16 Ybaf.underlying27 hi9 hz0 hz1 hz2 rfl (by decide) _ _ _ rfl (O2.alloc _) ⟨w2.heap.size, 0, none⟩ 1 1 [.string name] rfl rfl ?c1 ?c2 ?c3 ?c4 ?c5 ?_)
  case c1 => exact cell_new rfl
  case c2 => intro u hu; simp at hu; subst hu; rfl
  case c3 => unfold maxLen; omega
  case c4 => omega
  case c5 => omega
  intro v' w3 hown hgrow hne hat
  obtain ⟨g, cp, rfl⟩ := some_of hown hne
  have K3 := (K2.alloc (.cells #[.string name] 9)).grown hgrow hrow
  have hL3 : w3.heap[L]? = some (.cells (bc (.map (some M)) V hlp) 40 (0, 0)) := (hgrow.block L (by simp; omega) hLb).trans ((Below.heap_alloc _ _ _ hLlt).trans hL2)
  clear hown hgrow hat O2 hne
  have m3 := cell_of hL3 2 _ rfl
  have m3f := free_of hL3 2
  clear hL3 hL2
  go_wp2
  go_ret
  exact ⟨rfl, K3.setCell hLS _⟩
end Go.Proofs.YbulkboqsFmt.Rp
