import Derived.Test.YbulkboqsFmtRpSame
namespace Go.Proofs.YbulkboqsFmt.Rp
open Go.RowKit Go Go.Maps Go.Extern.Stop Go.Stop Go.Extern

/-- The atom: the name x. -/
abbrev atomC : Array Value := #[.int .u8 0, .int .i64 0, .string ⟨#[120]⟩, .bool false, .string ⟨#[]⟩, .string ⟨#[]⟩, .slice none 0 0, .slice none 0 0]

theorem zero66 (w : World) : (zeroValue 66).run Ybaf.prog w = .ok (.agg #[.int .i32 0, .string ⟨#[]⟩]) w := by kernel_rfl

theorem field66 (a b : Value) (w : World) : (Instr.field 66 (.agg #[a, b]) 0).run Ybaf.prog w = .ok a w := by kernel_rfl

/-- What the first asking for x leaves. -/
def AfterX (S : Nat → Prop) (w w' : World) (L hlp : Nat) (N : Nat → Nat) : Prop :=
  ∃ M V' N' T, Bld w' T L (.map (some M)) hlp V' N' ∧ N' 2 = N 2 + 1 ∧ (∀ i, at5 i → N' i ≤ N i + 1) ∧ Keeps S w w' ∧ (∀ k, T k → Grow S w w' k) ∧ ¬ T M ∧ w.heap.size ≤ M ∧
      Im w' M 1 ((DataW.map []).put (.string [120]) (.lit (.int .i32 (N 2))))

theorem AfterX.pre {S : Nat → Prop} {w W w' : World} {L hlp : Nat} {N : Nat → Nat} (h : AfterX S W w' L hlp N) (hK : Keeps S w W) : AfterX S w w' L hlp N := by
  obtain ⟨M, V', N', T, B, e, b, K, hT, hM, hM', I⟩ := h
  have := hK.size
  refine ⟨M, V', N', T, B, e, b, hK.trans (K.mono fun k hk => .inl hk), fun k hk => ?_, hM, by omega, I⟩
  rcases hT k hk with h' | h'
  · exact .inl h'
  · exact .inr ⟨by omega, h'.2⟩

theorem afterX_close {S : Nat → Prop} {w W w2 : World} {L hlp M r : Nat} {N : Nat → Nat} {V' : Nat → Value} {N' : Nat → Nat} {u v : Value} (KW : Keeps S w W) (B2 : Bld w2 (fun k => Grow S W w2 k ∧ k ≠ M) L (.map (some M)) hlp V' N') (e2 : N' 2 = N 2 + 1) (b2 : ∀ i, at5 i → N' i ≤ N i + 1) (K2 : Keeps S W w2) (hM : W.heap.size ≤ M)
    (I2 : Im w2 M 1 ((DataW.map []).put (.string [120]) (.lit (.int .i32 (N 2))))) (hr : w.heap.size ≤ r) (hrW : r < W.heap.size) (hrS : ¬ S r) : AfterX S w ((w2.setCell ⟨r, 0, none⟩ u).setCell ⟨r, 1, none⟩ v) L hlp N := by
  have k0 : Keeps (fun k => k = r) w2 ((w2.setCell ⟨r, 0, none⟩ u).setCell ⟨r, 1, none⟩ v) := ((Keeps.refl (fun k => k = r) w2).setCell (p := ⟨r, 0, none⟩) (.inl rfl) u).setCell (p := ⟨r, 1, none⟩) (.inl rfl) v
  have hsz : ((w2.setCell ⟨r, 0, none⟩ u).setCell ⟨r, 1, none⟩ v).heap.size = w2.heap.size := by simp
  have h1 := KW.size
  have h2 := K2.size
  refine ⟨M, V', N', fun k => Grow S W w2 k ∧ k ≠ M, B2.keep k0 (fun k hk hc => ?_) (fun k hk => hk) (fun k hk => by rw [hsz]; exact B2.lt k hk), e2, b2, ?_, fun k hk => ?_, fun hc => hc.2 rfl, by omega, I2.keep k0 (by omega)⟩
  · subst hk
    rcases hc.1 with h' | h'
    · exact hrS h'
    · omega
  · exact ((KW.trans (K2.mono fun k hk => .inl hk)).setCell (p := ⟨r, 0, none⟩) (.inr hr) u).setCell (p := ⟨r, 1, none⟩) (.inr hr) v
  · rcases hk.1 with h' | h'
    · exact .inl h'
    · exact .inr ⟨by omega, by rw [hsz]; exact h'.2⟩

set_option maxRecDepth 20000 in
set_option maxHeartbeats 2000000 in
theorem symbol_any (S : Nat → Prop) (L : Nat) (hlp : Nat) (V : Nat → Value) (N : Nat → Nat) (w : World) (h : Bld w S L (.map none) hlp V N) (hN : ∀ i, at5 i → N i ≤ 50000) :
    Calls Ybaf.prog 13 #[.pointer (some ⟨L, 0, none⟩), .agg atomC] w fun e w' => e = .returned (.agg #[.int .i32 (N 2), .string ⟨#[120]⟩]) ∧ AfterX S w w' L hlp N := by
  have hlk := fun (w : World) => Maps.look_nil (w := w) true law9 Ybaf.underlying38 (zero66 w) (WideMaps.keyOf_string_mk (s := ⟨#[120]⟩) Ybaf.underlying9 (by decide))
  have k19 : w.cell? ⟨L, 19, none⟩ = some (.map none) := h.cell rfl
  have hLlt := h.lt L h.inS
  have hLlt1 : L < w.heap.size + 1 := by omega
  have hLlt2 : L < w.heap.size + 1 + 1 := by omega
  go_enter Ybaf.func13, Ybaf.ntmps13
  go_wp2
  go_region
  go_wp2
  obtain ⟨W, hW⟩ : ∃ W, W = (((w.alloc (.cells atomC 48)).alloc (.cells #[.int .i32 0, .string ⟨#[]⟩] 66)).alloc (.cells #[.int .i32 0, .string ⟨#[]⟩] 66)).drew := ⟨_, rfl⟩
  have BW : Bld W S L (.map none) hlp V N := by rw [hW]; exact (((h.alloc _).alloc _).alloc _).drew
  have KW : Keeps S w W := by rw [hW]; exact ((((Keeps.refl S w).alloc _).alloc _).alloc _).drew
  have ha : W.heap[w.heap.size]? = some (.cells atomC 48 (0, 0)) := by
    rw [hW]
    exact (Below.heap_alloc _ _ _ (by simp; omega)).trans ((Below.heap_alloc _ _ _ (by simp)).trans (heap_alloc_new w _))
  have hr : W.heap[w.heap.size + 1]? = some (.cells #[.int .i32 0, .string ⟨#[]⟩] 66 (0, 0)) := by
    rw [hW]
    refine (Below.heap_alloc _ _ _ (by simp)).trans ?_
    simpa using heap_alloc_new (w.alloc (.cells atomC 48)) (.cells #[.int .i32 0, .string ⟨#[]⟩] 66)
  have hs0 : ¬ S w.heap.size := fun hc => by have := h.lt _ hc; omega
  have hs1 : ¬ S (w.heap.size + 1) := fun hc => by have := h.lt _ hc; omega
  rw [← hW]
  clear hW
  have a2 : W.cell? ⟨w.heap.size, 2, none⟩ = some (.string ⟨#[120]⟩) := cell_of ha 2 _ rfl
  have ha' : W.drew.heap[w.heap.size]? = some (.cells atomC 48 (0, 0)) := ha
  have hr' : W.drew.heap[w.heap.size + 1]? = some (.cells #[.int .i32 0, .string ⟨#[]⟩] 66 (0, 0)) := hr
  go_region_with (go_at_call 9; refine (sym_nil S L hlp V N ⟨#[120]⟩ _ BW.drew hN (by decide)).mono ?_; rintro e w2 ⟨rfl, M, V', N', B2, e2, b2, K2, hM, I2⟩; have a3 : w2.cell? ⟨w.heap.size, 2, none⟩ = some (.string ⟨#[120]⟩) := cell_of (R_keep ha' K2 hs0) 2 _ rfl; have r0 := cell_of (R_keep hr' K2 hs1) 0 _ rfl; have r1 := cell_of (R_keep hr' K2 hs1) 1 _ rfl; have f0 := free_of (R_keep hr' K2 hs1) 0; have f1 := free_of (R_keep hr' K2 hs1) 1)
  all_goals
    go_wp2
    exact bodyPost_ret (v := .agg #[.int .i32 (N 2), .string ⟨#[120]⟩]) (by simp [results, Ybaf.results13, go_sem, r0, r1]) rfl ⟨rfl, afterX_close KW.drew B2 e2 b2 K2 hM I2 (Nat.le_succ _) (lt_of_block hr) hs1⟩

set_option maxRecDepth 20000 in
set_option maxHeartbeats 1000000 in
theorem single_any (S : Nat → Prop) (L : Nat) (hlp : Nat) (V : Nat → Value) (N : Nat → Nat) (w : World) (h : Bld w S L (.map none) hlp V N) (hN : ∀ i, at5 i → N i ≤ 50000) :
    Calls Ybaf.prog 16 #[.pointer (some ⟨L, 0, none⟩), .agg atomC] w fun e w' => e = .returned (.int .i32 (N 2)) ∧ AfterX S w w' L hlp N := by
  have B1 := h.alloc (.cells atomC 48)
  have K1 := (Keeps.refl S w).alloc (.cells atomC 48)
  go_enter Ybaf.func16, Ybaf.ntmps16
  go_wp2_with fail
  refine (symbol_any S L hlp V N _ B1 hN).mono ?_
  rintro e w2 ⟨rfl, hA⟩
  have hfd := fun (w : World) => field66 (.int .i32 (N 2)) (.string ⟨#[120]⟩) w
  go_wp2
  go_ret
  exact ⟨rfl, hA.pre K1⟩
end Go.Proofs.YbulkboqsFmt.Rp
