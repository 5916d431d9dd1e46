import Derived.Test.YbulkboqsFmtRpBase
namespace Go.Proofs.YbulkboqsFmt.Rp
open Go.RowKit Go Go.Maps

theorem Ybaf.info9 : (Ybaf.prog.info? 9).map (fun i => (i.zero, i.size, i.bytes)) = some (some (.string ⟨#[]⟩), 1, 16) := by kernel_rfl
theorem Ybaf.info54 : (Ybaf.prog.info? 54).map (fun i => (i.zero, i.size, i.bytes)) = some (some (.int .i32 0), 1, 4) := by kernel_rfl
theorem Ybaf.info3 : (Ybaf.prog.info? 3).map (fun i => (i.zero, i.size, i.bytes)) = some (some (.int .i64 0), 1, 8) := by kernel_rfl

theorem cell_of {w : World} {L : Nat} {cs : Array Value} {t : TypeId} (h : w.heap[L]? = some (.cells cs t (0, 0))) (i : Nat) (v : Value) (hv : cs[i]? = some v) : w.cell? ⟨L, i, none⟩ = some v := by simp [World.cell?, h, hv]
theorem free_of {w : World} {L : Nat} {cs : Array Value} {t : TypeId} (h : w.heap[L]? = some (.cells cs t (0, 0))) (i : Nat) : w.frozen? ⟨L, i, none⟩ = false := by simp [World.frozen?, h]
theorem grow_lt {S : Nat → Prop} {w w' : World} (h : ∀ k, S k → k < w.heap.size) (hs : w.heap.size ≤ w'.heap.size) : ∀ k, Grow S w w' k → k < w'.heap.size := by
  intro k hk
  rcases hk with hk | hk
  · have := h k hk; omega
  · exact hk.2
theorem cell_new {w : World} {v : Value} {t : TypeId} {b : Nat} (hb : b = w.heap.size) : ∀ j u, [v][j]? = some u → (w.alloc (.cells #[v] t)).cell? ((⟨b, 0, none⟩ : Addr).add j) = some u := by
  subst hb; exact cell_one_new _ _ _

theorem some_of {w : World} {base : Nat} {e : TypeId} {size : Nat} {v : Value} {n : Nat} {xs : List Value} (h : w.ownsRow base e size v n xs) (hne : v ≠ .slice none 0 0) : ∃ g c, v = .slice (some ⟨g, 0, none⟩) n c := by
  rcases h.2 with ⟨h, _⟩ | ⟨g, c, _, h, _⟩
  · exact absurd h hne
  · exact ⟨g, c, h⟩

/-- What Hidden, AddRule leave of the builder. -/
def After (S : Nat → Prop) (w w' : World) (L : Nat) (ids : Value) (hlp : Nat) (N : Nat → Nat) (n2 d : Nat) : Prop :=
  ∃ V' N', Bld w' (Grow S w w') L ids hlp V' N' ∧ N' 2 = n2 ∧ (∀ i, at5 i → N' i ≤ N i + d) ∧ Keeps S w w'

/-- One append and its store, from a builder that stands (behind the block of what is appended). -/
theorem step_append {w wr w1 : World} {S : Nat → Prop} {L : Nat} {ids : Value} {hlp : Nat} {V : Nat → Value} {N : Nat → Nat} (h : Bld wr (Grow S w wr) L ids hlp V N) (hk : Keeps S w wr) (i : Nat) (hi : at5 i) {v' vi : Value} {m sz : Nat} {ys : List Value} (hvi : V i = vi)
    (hown : w1.ownsRow 0 (el i) 1 v' (N i + m) ys) (hg : wr.grownBy w1 vi.ownBlock) (hat : v'.ownBlock = vi.ownBlock ∨ v'.ownBlock = some sz) (hsz' : sz = wr.heap.size) :
    w1.heap[L]? = some (.cells (bc ids V hlp) 40 (0, 0)) ∧ Bld (w1.setCell ⟨L, i, none⟩ v') (Grow S w (w1.setCell ⟨L, i, none⟩ v')) L ids hlp (upd V i v') (upd N i (N i + m)) ∧ Keeps S w (w1.setCell ⟨L, i, none⟩ v') := by
  subst hvi hsz'
  have hsz : (w1.setCell ⟨L, i, none⟩ v').heap.size = w1.heap.size := by simp [World.setCell]
  have e : ∀ k, Grow S w (w1.setCell ⟨L, i, none⟩ v') k ↔ Grow S w w1 k := fun k => by simp only [Grow, hsz]
  have hlt : ∀ k, Grow S w w1 k → k < w1.heap.size := fun k hk' => by
    rcases hk' with h' | h'
    · have := h.lt k (.inl h'); have := hg.size; omega
    · exact h'.2
  have key := h.appended (S1 := Grow S w w1) i hi hown hg hat (fun k hk' => by
      rcases hk' with h' | h'
      · exact .inl h'
      · exact .inr ⟨h'.1, by have := hg.size; omega⟩) (fun k hv => by
      rcases hat with e' | e'
      · rcases (h.sub i hi k (e' ▸ hv)).1 with h' | h'
        · exact .inl h'
        · exact .inr ⟨h'.1, by have := hg.size; omega⟩
      · have := hown.lt k hv
        rw [e'] at hv
        have := hk.size
        simp at hv
        exact .inr ⟨by omega, by omega⟩) hlt
  refine ⟨key.1, key.2.wide (fun k hk' => (e k).2 hk') (fun k hk' => by rw [hsz]; exact hlt k ((e k).1 hk')), (hk.grown hg (fun k hk' => ?_)).setCell (by
    rcases h.inS with h' | h'
    · exact .inl h'
    · exact .inr h'.1) _⟩
  rcases (h.sub i hi k hk').1 with h' | h'
  · exact .inl h'
  · exact .inr h'.1

theorem Bld.start {w : World} {S : Nat → Prop} {L : Nat} {ids : Value} {hlp : Nat} {V : Nat → Value} {N : Nat → Nat} (h : Bld w S L ids hlp V N) : Bld w (Grow S w w) L ids hlp V N :=
  h.wide (fun _ hk => .inl hk) (fun k hk => by rcases hk with hk | hk; exact h.lt k hk; exact hk.2)
/-- A new block, whatever it holds. -/
theorem Bld.over {w wr : World} {S : Nat → Prop} {L : Nat} {ids : Value} {hlp : Nat} {V : Nat → Value} {N : Nat → Nat} (h : Bld wr (Grow S w wr) L ids hlp V N) (o : Obj) : Bld (wr.alloc o) (Grow S w (wr.alloc o)) L ids hlp V N :=
  (h.alloc o).wide (fun k hk' => by
    rcases hk' with h' | h'
    · exact .inl h'
    · exact .inr ⟨h'.1, by simp; omega⟩) (fun k hk' => by
    rcases hk' with h' | h'
    · have := h.lt k (.inl h'); simp; omega
    · exact h'.2)

set_option maxHeartbeats 1000000 in
theorem Hidden_any (S : Nat → Prop) (L : Nat) (ids : Value) (hlp : Nat) (V : Nat → Value) (N : Nat → Nat) (name : ByteArray) (w : World) (h : Bld w S L ids hlp V N) (hN : ∀ i, at5 i → N i ≤ 100000) :
    Calls Ybaf.prog 22 #[.pointer (some ⟨L, 1, none⟩), .string name] w fun e w' => e = .returned (.int .i32 (N 2)) ∧ After S w w' L ids hlp N (N 2 + 1) 1 := by
  obtain ⟨i9, hi9, hz0, hz1, hz2⟩ := info_parts Ybaf.info9
  obtain ⟨i54, hi54, hy0, hy1, hy2⟩ := info_parts Ybaf.info54
  obtain ⟨a2, c2, f2⟩ := h.form 2 (.inl rfl)
  obtain ⟨a11, c11, f11⟩ := h.form 11 (.inr (.inr (.inr (.inr rfl))))
  have b2 := hN 2 (.inl rfl)
  have b11 := hN 11 (.inr (.inr (.inr (.inr rfl))))
  obtain ⟨xs2, o2⟩ := h.row 2 (.inl rfl)
  have k2 : w.cell? ⟨L, 2, none⟩ = some (.slice a2 (N 2) c2) := h.cell (by rw [← f2]; rfl)
  have O2 : w.ownsRow 0 9 1 (.slice a2 (N 2) c2) (N 2) xs2 := by rw [← f2]; exact o2
  have H2 : Hid (V 2 = .slice a2 (N 2) c2) := f2
  have H11 : Hid (V 11 = .slice a11 (N 11) c11) := f11
  clear f2 f11 o2
  go_enter Ybaf.func22, Ybaf.ntmps22
  go_wp2_with (at_builtin; refine wpList_append_own_at _ rfl (.tmp 16) (.tmp 18) 27 rfl 0 9 i9 (.string ⟨#[]⟩) 1 16 Ybaf.underlying27 hi9 hz0 hz1 hz2 rfl (by decide) _ _ _ rfl (O2.alloc _) ⟨w.heap.size, 0, none⟩ 1 1 [.string name] rfl rfl ?c1 ?c2 ?c3 ?c4 ?c5 ?_)
  case c1 => exact cell_new rfl
  case c2 => intro u hu; simp at hu; subst hu; rfl
  case c3 => unfold maxLen; omega
  case c4 => omega
  case c5 => omega
  intro v' w1 hown hgrow hne hat
  obtain ⟨g, cp, rfl⟩ := some_of hown hne
  obtain ⟨hL1, B1, K1⟩ := step_append (h.start.over (.cells #[.string name] 9)) ((Keeps.refl S w).alloc _) 2 (.inl rfl) H2.out hown hgrow hat (by simp)
  clear hown hgrow hat O2 hne
  have m2 := cell_of hL1 2 _ rfl
  have m2f := free_of hL1 2
  have m11 : w1.cell? ⟨L, 11, none⟩ = some (.slice a11 (N 11) c11) := cell_of hL1 11 _ (by rw [← H11.out]; rfl)
  have m11f := free_of hL1 11
  obtain ⟨xs11, o11⟩ := B1.row 11 (.inr (.inr (.inr (.inr rfl))))
  have O11 : (w1.setCell ⟨L, 2, none⟩ (.slice (some ⟨g, 0, none⟩) (N 2 + 1) cp)).ownsRow 0 54 1 (.slice a11 (N 11) c11) (N 11) xs11 := by rw [← H11.out]; exact o11
  clear o11 hL1
  go_wp2_with (at_builtin; refine wpList_append_own_at _ rfl (.tmp 26) (.tmp 28) 28 rfl 0 54 i54 (.int .i32 0) 1 4 Ybaf.underlying28 hi54 hy0 hy1 hy2 rfl (by decide) _ _ _ rfl (O11.alloc _) ⟨w1.heap.size, 0, none⟩ 1 1 [.int .i32 (N 2)] rfl rfl ?d1 ?d2 ?d3 ?d4 ?d5 ?_)
  case d1 => exact cell_new (by simp)
  case d2 => intro u hu; simp at hu; subst hu; rfl
  case d3 => unfold maxLen; omega
  case d4 => omega
  case d5 => omega
  intro v'' w2 hown hgrow hne hat
  obtain ⟨g', cp', rfl⟩ := some_of hown hne
  obtain ⟨hL2, B2, K2⟩ := step_append (B1.over (.cells #[.int .i32 (N 2)] 54)) (K1.alloc _) 11 (.inr (.inr (.inr (.inr rfl)))) (show upd V 2 _ 11 = _ from H11.out) hown hgrow hat (by simp)
  clear hown hgrow hat O11 hne B1 K1
  have n11 := cell_of hL2 11 _ rfl
  have n11f := free_of hL2 11
  clear hL2
  go_wp2
  go_ret
  refine ⟨rfl, _, _, B2, rfl, fun i hi => ?_, K2⟩
  rcases hi with rfl | rfl | rfl | rfl | rfl <;> simp [upd]
end Go.Proofs.YbulkboqsFmt.Rp
