import Derived.Test.YbulkboqsFmtRpItem
import Derived.Test.YbulkboqsFmtShelf
namespace Go.Proofs.YbulkboqsFmt.Rp
open Go.RowKit Go Go.Maps Go.Extern.Stop Go.Stop Go.Extern

theorem len_any (n : Nat) (h : n < 18446744073709551616) (w : World) : Calls Ybaf.prog 7 #[.int .u64 n] w fun e w' => e = .returned (.int .i64 (bl n)) ∧ w' = w := by
  have := Ybaf.bits_Len64 (n : Int) w (by omega) (by omega)
  rw [Int.toNat_natCast] at this
  exact this

theorem copy_any (a : Option Addr) (len cap : Nat) (Z : List Int) (w : World) (hl : len ≤ 1024) (c : Came w a len Z) (hn : a = none → len = 0 ∧ cap = 0) :
    Calls Ybaf.prog 5 #[.slice a len cap] w fun e w' => ∃ da dc, e = .returned (.slice da len dc) ∧ w'.ownsRow 0 54 1 (.slice da len dc) len (I32 (Z.take len)) ∧ (∀ k, (Value.slice da len dc).ownBlock = some k → w.heap.size ≤ k) ∧ Below w.heap.size w w' := by
  cases a with
  | none =>
    obtain ⟨rfl, rfl⟩ := hn rfl
    refine (copy_nil w).mono ?_
    rintro e w' ⟨rfl, rfl⟩
    exact ⟨none, 0, rfl, World.ownsRow_nil _ _ _ _, fun k hk => by simp [Value.ownBlock] at hk, Below.refl _ _⟩
  | some x =>
    refine (copy_some x len cap Z w hl c).mono ?_
    rintro e w' ⟨g, rfl, hg, ho, hb⟩
    exact ⟨_, _, rfl, ho, fun k hk => by simp [Value.ownBlock] at hk; omega, hb⟩

theorem came_below {w w' : World} {a : Option Addr} {len : Nat} {Z : List Int} (c : Came w a len Z) (hb : Below w.heap.size w w') : Came w' a len Z := by
  refine ⟨c.1, fun j hj => ?_⟩
  obtain ⟨b, off, e, hlt, hc⟩ := c.2 j hj
  exact ⟨b, off, e, Nat.lt_of_lt_of_le hlt hb.size, (hb.cell (by exact hlt)).trans hc⟩

/-- The builder as the law makes it. -/
theorem bld_new (w : World) : Bld (w.alloc (.cells #[.pointer none, .map none, nilS, nilS, nilS, nilS, nilS, nilS, nilS, nilS, nilS, nilS, nilS, nilS, nilS, .map none, .map none, .string ⟨#[114]⟩, .int .i64 0, .map none] 40)) (fun k => k = w.heap.size) w.heap.size (.map none) 0 (fun _ => nilS) (fun _ => 0) where
  inS := rfl
  lt := fun k hk => by subst hk; simp
  cells := heap_alloc_new w _
  row := fun i _ => ⟨[], World.ownsRow_nil _ _ _ _⟩
  sub := fun i _ k hk => by simp [Value.ownBlock] at hk
  apart := fun i j _ _ _ k hk => by simp [Value.ownBlock] at hk

theorem ret_true {a b : Int} (h : a = b) : Ending.returned (.bool (a == b)) = .returned (.bool true) := by rw [h]; simp

theorem Bld.draws {w : World} {S : Nat → Prop} {L : Nat} {ids : Value} {hlp : Nat} {V : Nat → Value} {N : Nat → Nat} (h : Bld w S L ids hlp V N) (q : Nat) : Bld (w.drewN q) S L ids hlp V N :=
  h.keep (T := fun _ => False) ((Keeps.refl _ _).drewN q) (fun _ e => e.elim) (fun _ e => e) (fun k hk => h.lt k hk)

set_option maxHeartbeats 400000 in
theorem law_long (a : Option Addr) (len cap : Nat) (mn mx : Int) (w : World) (h : 1024 < len) :
    Calls Ybaf.prog 3 #[.slice a len cap, .int .u64 mn, .int .u64 mx] w fun e w' => e = .returned (.bool true) ∧ Below w.heap.size w w' := by
  go_enter Ybaf.func3, Ybaf.ntmps3
  go_wp2
  go_ret
  exact ⟨rfl, Below.refl _ _⟩

set_option maxRecDepth 20000 in
set_option maxHeartbeats 4000000 in
theorem law_both (F : Interp) (a : Option Addr) (len cap : Nat) (Z : List Int) (mn mx : Nat) (w : World) (hF : F.answers w.tape) (hl : len ≤ 1024) (c : Came w a len Z) (hn : a = none → len = 0 ∧ cap = 0) (hmn : mn < 18446744073709551616) (hmx : mx < 18446744073709551616) (h0 : 0 < mn) (hlt : mn < mx) :
    Calls Ybaf.prog 3 #[.slice a len cap, .int .u64 mn, .int .u64 mx] w fun e w' => e = .returned (.bool true) ∧ Below w.heap.size w w' := by
  obtain ⟨i54, hi54, hy0, hy1, hy2⟩ := info_parts Ybaf.info54
  have B1 := bld_new w
  have b1 : Below w.heap.size w (w.alloc (.cells #[.pointer none, .map none, nilS, nilS, nilS, nilS, nilS, nilS, nilS, nilS, nilS, nilS, nilS, nilS, nilS, .map none, .map none, .string ⟨#[114]⟩, .int .i64 0, .map none] 40)) := (Below.refl _ _).alloc (Nat.le_refl _) _
  have HC := hide (copy_any a len cap Z _ hl (came_below c b1) hn)
  clear hn
  go_enter Ybaf.func3, Ybaf.ntmps3
  go_wp2_with fail
  refine HC.out.mono ?_
  rintro e w2 ⟨da, dc, rfl, hO2, hdk, hb2⟩
  have hdk' : ∀ k, (Value.slice da len dc).ownBlock = some k → w.heap.size + 1 ≤ k := fun k hk => by have := hdk k hk; simp at this; exact this
  have HDK := hide hdk'
  have hL2 : w.heap.size < w2.heap.size := by have := hb2.size; simp at this; omega
  have bel2 : Below w.heap.size w w2 := b1.trans (hb2.mono (by simp))
  have B2 : Bld w2 (fun k => k = w.heap.size) w.heap.size (.map none) 0 (fun _ => nilS) (fun _ => 0) :=
    B1.keep (T := fun _ => False) (S' := fun k => k = w.heap.size) ⟨hb2.os, hb2.tape, hb2.output, hb2.size, fun k hk _ => hb2.block k hk⟩ (fun _ e => e.elim) (fun _ e => e) (fun k hk => by omega)
  clear HC hdk hdk' hb2 b1 B1
  have B3 := B2.alloc (.cells (itemC mn mx) 51)
  have O3 := hO2.alloc (.cells (itemC mn mx) 51)
  have bel3 := bel2.alloc (by omega) (.cells (itemC mn mx) 51)
  have hF3 : F.answers (w2.alloc (.cells (itemC mn mx) 51)).tape := by rw [bel3.tape]; exact hF
  have hit := item_both F w.heap.size (fun k => k = w.heap.size) w.heap.size (fun _ => nilS) (fun _ => 0) da len dc (Z.take len) mn mx _ hF3 B3 (fun _ _ => rfl) O3 (fun k hk => ⟨fun e => by have := HDK.out k hk; omega, by have := HDK.out k hk; omega⟩) (fun k hk => by omega) (by simp; omega) hl hmn hmx (by omega) h0 hlt
  have HIT := hide hit
  clear hit B2 B3 hO2 bel2
  go_wp2_with fail
  refine HIT.out.mono ?_
  rintro e w4 ⟨ov, rfl, hO4, bel4, ids, T, V4, N4, B4, e4, b4, hTB, hids⟩
  obtain ⟨oa, oc, rfl, hOC⟩ := own_came hO4
  have E4 := hide e4
  have HML : Hid (∀ M, ids = .map (some M) → M < w4.heap.size) := fun M e => by
    rcases hids with h' | ⟨M', e', _, _, I⟩
    · rw [h'] at e; simp at e
    · have : M' = M := by rw [e'] at e; simpa using e
      subst this
      exact World.ownsMap.lt I
  have HBS : Hid (w.heap.size ≤ w4.heap.size) := (bel3.trans bel4).size
  have bel : Below w.heap.size w w4 := bel3.trans bel4
  have hcm : Came w4 a len Z := came_below c bel
  clear HIT bel4 bel3 O3 e4
  have hl1 := bl_lg mn h0 hmn
  have la : bl mn ≤ lg mn + 1 := by omega
  have lb : lg mn + 1 ≤ bl mn := by omega
  have lc := lg_le mn hmn
  clear hl1
  go_wp2_with fail
  refine (len_any mn hmn _).mono ?_
  rintro e w4' ⟨rfl, rfl⟩
  go_wp2_with (at_builtin; refine wpList_append_own_at _ rfl (.tmp 38) (.tmp 41) 28 rfl 0 54 i54 (.int .i32 0) 1 4 Ybaf.underlying28 hi54 hy0 hy1 hy2 rfl (by decide) _ _ _ rfl ((World.ownsRow_nil w4' 0 54 1).alloc _) ⟨w4'.heap.size, 0, none⟩ 1 1 [.int .i32 ((bl mn : Int) - 1)] rfl rfl ?c1 ?c2 ?c3 ?c4 ?c5 ?_)
  case c1 => exact cell_new rfl
  case c2 => intro u hu; simp at hu; subst hu; rfl
  case c3 => decide
  case c4 => decide
  case c5 => omega
  intro v' w5 hown hgrow hne hat
  obtain ⟨g5, cp5, rfl⟩ := some_of hown hne
  have KA : Keeps (fun _ => False) w4' w5 := ((Keeps.refl _ w4').alloc (.cells #[.int .i32 ((bl mn : Int) - 1)] 54)).grown hgrow (fun k hk => by simp [Value.ownBlock] at hk)
  have B5 := B4.keep (S' := T) KA (fun _ e => e.elim) (fun _ e => e) (fun k hk => by have := B4.lt k hk; have := KA.size; omega)
  have O5 := own_keep hO4 KA (fun _ _ e => e)
  have hids5 : ids = .map none ∨ ∃ M, ids = .map (some M) ∧ ¬ T M ∧ w.heap.size ≤ M ∧ Im w5 M 1 DX := by
    rcases hids with h' | ⟨M, e, hM, hM', I⟩
    · exact .inl h'
    · exact .inr ⟨M, e, hM, hM', I.keep KA id⟩
  have bel5 : Below w.heap.size w w5 := bel.trans (KA.below bel.size (fun _ e => e.elim))
  have hW5 : w5.ownsRow 0 54 1 (.slice (some ⟨g5, 0, none⟩) 1 cp5) 1 (I32 [(bl mn : Int) - 1]) := by simpa using hown
  have hg5 : w4'.heap.size ≤ g5 := by
    rcases hat with e | e
    · simp [Value.ownBlock] at e
    · have : g5 = w4'.heap.size + 1 := by simpa [Value.ownBlock] using e
      omega
  have hTlt : ∀ k, T k → k < w4'.heap.size := B4.lt
  have hOlt : ∀ k, (Value.slice oa (len + 2) oc).ownBlock = some k → k < w4'.heap.size := fun k hk => (hO4.lt k hk).2
  have HOL := hide hOlt
  clear hown hgrow hne hat KA B4 hO4 hids bel hOlt hOC hcm
  have hb2 := bl_le (mx - mn) (by omega)
  go_wp2_with fail
  rw [show ((mx : Int) - (mn : Int)) = ((mx - mn : Nat) : Int) from by omega]
  refine (len_any (mx - mn) (by omega) _).mono ?_
  rintro e w5' ⟨rfl, rfl⟩
  go_wp2_with (at_builtin; refine wpList_append_own_at _ rfl (.tmp 54) (.tmp 59) 28 rfl 0 54 i54 (.int .i32 0) 1 4 Ybaf.underlying28 hi54 hy0 hy1 hy2 rfl (by decide) _ _ _ rfl (hW5.alloc _) ⟨w5'.heap.size, 0, none⟩ 1 1 [.int .i32 ((bl mn : Int) - 1 + (bl (mx - mn) : Int))] rfl rfl ?d1 ?d2 ?d3 ?d4 ?d5 ?_)
  case d1 => exact cell_new rfl
  case d2 => intro u hu; simp at hu; subst hu; rfl
  case d3 => decide
  case d4 => decide
  case d5 => omega
  intro v' w6 hown hgrow hne hat
  obtain ⟨g6, cp6, rfl⟩ := some_of hown hne
  have KA : Keeps (fun k => k = g5) w5' w6 := ((Keeps.refl _ w5').alloc (.cells #[.int .i32 ((bl mn : Int) - 1 + (bl (mx - mn) : Int))] 54)).grown hgrow (fun k hk => .inl (by simpa [Value.ownBlock] using hk.symm))
  have B6 := B5.keep (S' := T) KA (fun k e hk => by have := hTlt k hk; omega) (fun _ e => e) (fun k hk => by have := B5.lt k hk; have := KA.size; omega)
  have O6 := own_keep O5 KA (fun k hk e => by have := HOL.out k hk; omega)
  have hids6 : ids = .map none ∨ ∃ M, ids = .map (some M) ∧ ¬ T M ∧ w.heap.size ≤ M ∧ Im w6 M 1 DX := by
    rcases hids5 with h' | ⟨M, e, hM, hM', I⟩
    · exact .inl h'
    · exact .inr ⟨M, e, hM, hM', I.keep KA (fun e' => by have := HML.out M e; omega)⟩
  have bel6 : Below w.heap.size w w6 := bel5.trans (KA.below bel5.size (fun k e => by have := HBS.out; omega))
  have hW6 : w6.ownsRow 0 54 1 (.slice (some ⟨g6, 0, none⟩) 2 cp6) 2 (I32 [(lg mn : Int), ((lg mn + bl (mx - mn) : Nat) : Int)]) := by
    have e1 : (bl mn : Int) - 1 = (lg mn : Int) := by omega
    rw [e1] at hown
    simpa using hown
  clear hown hgrow hne hat KA B5 O5 hids5 bel5 hW5
  obtain ⟨wa, wc, hwv, hWC⟩ := own_came hW6
  obtain ⟨oa', oc', hov, hOC⟩ := own_came O6
  obtain ⟨rfl, rfl⟩ : oa' = oa ∧ oc' = oc := by simpa using hov.symm
  have hcm : Came w6 a len Z := came_below c bel6
  have k18 : w6.cell? ⟨w.heap.size, 18, none⟩ = some (.int .i64 (lg mn + bl (mx - mn) : Nat)) := B6.cell rfl
  have n1 : N4 2 ≤ (1 + lg mn + bl (mx - mn))  := by rw [E4.out]; exact Nat.le_refl _
  have n2 : (1 + lg mn + bl (mx - mn)) ≤ N4 2 := by rw [E4.out]; exact Nat.le_refl _
  have HSM := hide (same_any oa' oc' a len cap wa 2 wc Z [(lg mn : Int), ((lg mn + bl (mx - mn) : Nat) : Int)] w6 hl (by omega) hOC hcm hWC)
  have HWV := hide hwv
  clear hwv hov hcm hOC hWC
  go_wp2_with fail
  try rw [HWV.out]
  refine HSM.out.mono ?_
  rintro e w7 ⟨rfl, q, rfl⟩
  clear HSM
  go_wp2_with fail
  rcases hids6 with rfl | ⟨M, rfl, hM, hM', I⟩
  · refine (sym_nil T w.heap.size (lg mn + bl (mx - mn)) V4 N4 ⟨#[122, 122, 35, 102, 114, 101, 115, 104]⟩ _ (B6.draws q) (fun i hi => by have := b4 i hi; omega) (by decide)).mono ?_
    rintro e w8 ⟨rfl, M, V', N', _, _, _, K8, _⟩
    go_wp2
    go_ret
    refine ⟨ret_true (a := (N4 2 : Int)) (b := 1 + ((bl mn : Int) - 1 + (bl (mx - mn) : Int))) (by omega), ?_⟩
    exact (below_drewN bel6 q).trans (K8.below (by have := bel6.size; simp; omega) hTB)
  · refine (sym_new T w.heap.size (lg mn + bl (mx - mn)) V4 N4 M 1 DX ⟨#[122, 122, 35, 102, 114, 101, 115, 104]⟩ _ (B6.draws q) (fun i hi => by have := b4 i hi; omega) (by decide) (I.keep ((Keeps.refl (fun _ => False) _).drewN q) id) hM (by decide) (by decide)).mono ?_
    rintro e w8 ⟨rfl, K8⟩
    go_wp2
    go_ret
    refine ⟨ret_true (a := (N4 2 : Int)) (b := 1 + ((bl mn : Int) - 1 + (bl (mx - mn) : Int))) (by omega), ?_⟩
    exact (below_drewN bel6 q).trans (K8.below (by have := bel6.size; simp; omega) (fun k hk => by rcases hk with h' | h'; exact hTB k h'; omega))

set_option maxRecDepth 20000 in
set_option maxHeartbeats 4000000 in
theorem law_exact (F : Interp) (a : Option Addr) (len cap : Nat) (Z : List Int) (mn mx : Nat) (w : World) (hF : F.answers w.tape) (hl : len ≤ 1024) (c : Came w a len Z) (hn : a = none → len = 0 ∧ cap = 0) (hmn : mn < 18446744073709551616) (hmx : mx < 18446744073709551616) (h0 : 0 < mn) (hx0 : 0 < mx) (hle : mx ≤ mn) :
    Calls Ybaf.prog 3 #[.slice a len cap, .int .u64 mn, .int .u64 mx] w fun e w' => e = .returned (.bool true) ∧ Below w.heap.size w w' := by
  obtain ⟨i54, hi54, hy0, hy1, hy2⟩ := info_parts Ybaf.info54
  have B1 := bld_new w
  have b1 : Below w.heap.size w (w.alloc (.cells #[.pointer none, .map none, nilS, nilS, nilS, nilS, nilS, nilS, nilS, nilS, nilS, nilS, nilS, nilS, nilS, .map none, .map none, .string ⟨#[114]⟩, .int .i64 0, .map none] 40)) := (Below.refl _ _).alloc (Nat.le_refl _) _
  have HC := hide (copy_any a len cap Z _ hl (came_below c b1) hn)
  clear hn
  go_enter Ybaf.func3, Ybaf.ntmps3
  go_wp2_with fail
  refine HC.out.mono ?_
  rintro e w2 ⟨da, dc, rfl, hO2, hdk, hb2⟩
  have hdk' : ∀ k, (Value.slice da len dc).ownBlock = some k → w.heap.size + 1 ≤ k := fun k hk => by have := hdk k hk; simp at this; exact this
  have HDK := hide hdk'
  have hL2 : w.heap.size < w2.heap.size := by have := hb2.size; simp at this; omega
  have bel2 : Below w.heap.size w w2 := b1.trans (hb2.mono (by simp))
  have B2 : Bld w2 (fun k => k = w.heap.size) w.heap.size (.map none) 0 (fun _ => nilS) (fun _ => 0) :=
    B1.keep (T := fun _ => False) (S' := fun k => k = w.heap.size) ⟨hb2.os, hb2.tape, hb2.output, hb2.size, fun k hk _ => hb2.block k hk⟩ (fun _ e => e.elim) (fun _ e => e) (fun k hk => by omega)
  clear HC hdk hdk' hb2 b1 B1
  have B3 := B2.alloc (.cells (itemC mn mx) 51)
  have O3 := hO2.alloc (.cells (itemC mn mx) 51)
  have bel3 := bel2.alloc (by omega) (.cells (itemC mn mx) 51)
  have hF3 : F.answers (w2.alloc (.cells (itemC mn mx) 51)).tape := by rw [bel3.tape]; exact hF
  have hit := item_exact F w.heap.size (fun k => k = w.heap.size) w.heap.size (fun _ => nilS) (fun _ => 0) da len dc (Z.take len) mn mx _ hF3 B3 (fun _ _ => rfl) O3 (fun k hk => ⟨fun e => by have := HDK.out k hk; omega, by have := HDK.out k hk; omega⟩) (fun k hk => by omega) (by simp; omega) hl hmn hmx hx0 h0 hle
  have HIT := hide hit
  clear hit B2 B3 hO2 bel2
  go_wp2_with fail
  refine HIT.out.mono ?_
  rintro e w4 ⟨ov, rfl, hO4, bel4, ids, T, V4, N4, B4, e4, b4, hTB, hids⟩
  obtain ⟨oa, oc, rfl, hOC⟩ := own_came hO4
  have E4 := hide e4
  have HML : Hid (∀ M, ids = .map (some M) → M < w4.heap.size) := fun M e => by
    rcases hids with h' | ⟨M', e', _, _, I⟩
    · rw [h'] at e; simp at e
    · have : M' = M := by rw [e'] at e; simpa using e
      subst this
      exact World.ownsMap.lt I
  have HBS : Hid (w.heap.size ≤ w4.heap.size) := (bel3.trans bel4).size
  have bel : Below w.heap.size w w4 := bel3.trans bel4
  have hcm : Came w4 a len Z := came_below c bel
  clear HIT bel4 bel3 O3 e4
  have hl1 := bl_lg mn h0 hmn
  have la : bl mn ≤ lg mn + 1 := by omega
  have lb : lg mn + 1 ≤ bl mn := by omega
  have lc := lg_le mn hmn
  clear hl1
  go_wp2_with fail
  refine (len_any mn hmn _).mono ?_
  rintro e w4' ⟨rfl, rfl⟩
  go_wp2_with (at_builtin; refine wpList_append_own_at _ rfl (.tmp 38) (.tmp 41) 28 rfl 0 54 i54 (.int .i32 0) 1 4 Ybaf.underlying28 hi54 hy0 hy1 hy2 rfl (by decide) _ _ _ rfl ((World.ownsRow_nil w4' 0 54 1).alloc _) ⟨w4'.heap.size, 0, none⟩ 1 1 [.int .i32 ((bl mn : Int) - 1)] rfl rfl ?c1 ?c2 ?c3 ?c4 ?c5 ?_)
  case c1 => exact cell_new rfl
  case c2 => intro u hu; simp at hu; subst hu; rfl
  case c3 => decide
  case c4 => decide
  case c5 => omega
  intro v' w5 hown hgrow hne hat
  obtain ⟨g5, cp5, rfl⟩ := some_of hown hne
  have KA : Keeps (fun _ => False) w4' w5 := ((Keeps.refl _ w4').alloc (.cells #[.int .i32 ((bl mn : Int) - 1)] 54)).grown hgrow (fun k hk => by simp [Value.ownBlock] at hk)
  have B5 := B4.keep (S' := T) KA (fun _ e => e.elim) (fun _ e => e) (fun k hk => by have := B4.lt k hk; have := KA.size; omega)
  have O5 := own_keep hO4 KA (fun _ _ e => e)
  have hids5 : ids = .map none ∨ ∃ M, ids = .map (some M) ∧ ¬ T M ∧ w.heap.size ≤ M ∧ Im w5 M 1 DX := by
    rcases hids with h' | ⟨M, e, hM, hM', I⟩
    · exact .inl h'
    · exact .inr ⟨M, e, hM, hM', I.keep KA id⟩
  have bel5 : Below w.heap.size w w5 := bel.trans (KA.below bel.size (fun _ e => e.elim))
  have hW5 : w5.ownsRow 0 54 1 (.slice (some ⟨g5, 0, none⟩) 1 cp5) 1 (I32 [(bl mn : Int) - 1]) := by simpa using hown
  have hg5 : w4'.heap.size ≤ g5 := by
    rcases hat with e | e
    · simp [Value.ownBlock] at e
    · have : g5 = w4'.heap.size + 1 := by simpa [Value.ownBlock] using e
      omega
  have hTlt : ∀ k, T k → k < w4'.heap.size := B4.lt
  have hOlt : ∀ k, (Value.slice oa (len + 1) oc).ownBlock = some k → k < w4'.heap.size := fun k hk => (hO4.lt k hk).2
  have HOL := hide hOlt
  clear hown hgrow hne hat KA B4 hO4 hids bel hOlt hOC hcm
  have hW5' : w5.ownsRow 0 54 1 (.slice (some ⟨g5, 0, none⟩) 1 cp5) 1 (I32 [(lg mn : Int)]) := by
    have e1 : (bl mn : Int) - 1 = (lg mn : Int) := by omega
    rw [e1] at hW5
    exact hW5
  clear hW5
  obtain ⟨wa, wc, hwv, hWC⟩ := own_came hW5'
  obtain ⟨oa', oc', hov, hOC⟩ := own_came O5
  obtain ⟨rfl, rfl⟩ : oa' = oa ∧ oc' = oc := by simpa using hov.symm
  have hcm : Came w5 a len Z := came_below c bel5
  have k18 : w5.cell? ⟨w.heap.size, 18, none⟩ = some (.int .i64 (lg mn : Nat)) := B5.cell rfl
  have n1 : N4 2 ≤ (1 + lg mn)  := by rw [E4.out]; exact Nat.le_refl _
  have n2 : (1 + lg mn) ≤ N4 2 := by rw [E4.out]; exact Nat.le_refl _
  have HSM := hide (same_any oa' oc' a len cap wa 1 wc Z [(lg mn : Int)] w5 hl (by omega) hOC hcm hWC)
  have HWV := hide hwv
  clear hwv hov hcm hOC hWC
  go_wp2_with fail
  try rw [HWV.out]
  refine HSM.out.mono ?_
  rintro e w7 ⟨rfl, q, rfl⟩
  clear HSM
  go_wp2_with fail
  rcases hids5 with rfl | ⟨M, rfl, hM, hM', I⟩
  · refine (sym_nil T w.heap.size (lg mn) V4 N4 ⟨#[122, 122, 35, 102, 114, 101, 115, 104]⟩ _ (B5.draws q) (fun i hi => by have := b4 i hi; omega) (by decide)).mono ?_
    rintro e w8 ⟨rfl, M, V', N', _, _, _, K8, _⟩
    go_wp2
    go_ret
    refine ⟨ret_true (a := (N4 2 : Int)) (b := 1 + ((bl mn : Int) - 1)) (by omega), ?_⟩
    exact (below_drewN bel5 q).trans (K8.below (by have := bel5.size; simp; omega) hTB)
  · refine (sym_new T w.heap.size (lg mn) V4 N4 M 1 DX ⟨#[122, 122, 35, 102, 114, 101, 115, 104]⟩ _ (B5.draws q) (fun i hi => by have := b4 i hi; omega) (by decide) (I.keep ((Keeps.refl (fun _ => False) _).drewN q) id) hM (by decide) (by decide)).mono ?_
    rintro e w8 ⟨rfl, K8⟩
    go_wp2
    go_ret
    refine ⟨ret_true (a := (N4 2 : Int)) (b := 1 + ((bl mn : Int) - 1)) (by omega), ?_⟩
    exact (below_drewN bel5 q).trans (K8.below (by have := bel5.size; simp; omega) (fun k hk => by rcases hk with h' | h'; exact hTB k h'; omega))

set_option maxRecDepth 20000 in
set_option maxHeartbeats 4000000 in
theorem law_most (F : Interp) (a : Option Addr) (len cap : Nat) (Z : List Int) (mx : Nat) (w : World) (hF : F.answers w.tape) (hl : len ≤ 1024) (c : Came w a len Z) (hn : a = none → len = 0 ∧ cap = 0) (hmx : mx < 18446744073709551616) (hx0 : 0 < mx) :
    Calls Ybaf.prog 3 #[.slice a len cap, .int .u64 0, .int .u64 mx] w fun e w' => e = .returned (.bool true) ∧ Below w.heap.size w w' := by
  obtain ⟨i54, hi54, hy0, hy1, hy2⟩ := info_parts Ybaf.info54
  have B1 := bld_new w
  have b1 : Below w.heap.size w (w.alloc (.cells #[.pointer none, .map none, nilS, nilS, nilS, nilS, nilS, nilS, nilS, nilS, nilS, nilS, nilS, nilS, nilS, .map none, .map none, .string ⟨#[114]⟩, .int .i64 0, .map none] 40)) := (Below.refl _ _).alloc (Nat.le_refl _) _
  have HC := hide (copy_any a len cap Z _ hl (came_below c b1) hn)
  clear hn
  go_enter Ybaf.func3, Ybaf.ntmps3
  go_wp2_with fail
  refine HC.out.mono ?_
  rintro e w2 ⟨da, dc, rfl, hO2, hdk, hb2⟩
  have hdk' : ∀ k, (Value.slice da len dc).ownBlock = some k → w.heap.size + 1 ≤ k := fun k hk => by have := hdk k hk; simp at this; exact this
  have HDK := hide hdk'
  have hL2 : w.heap.size < w2.heap.size := by have := hb2.size; simp at this; omega
  have bel2 : Below w.heap.size w w2 := b1.trans (hb2.mono (by simp))
  have B2 : Bld w2 (fun k => k = w.heap.size) w.heap.size (.map none) 0 (fun _ => nilS) (fun _ => 0) :=
    B1.keep (T := fun _ => False) (S' := fun k => k = w.heap.size) ⟨hb2.os, hb2.tape, hb2.output, hb2.size, fun k hk _ => hb2.block k hk⟩ (fun _ e => e.elim) (fun _ e => e) (fun k hk => by omega)
  clear HC hdk hdk' hb2 b1 B1
  have B3 := B2.alloc (.cells (itemC 0 mx) 51)
  have O3 := hO2.alloc (.cells (itemC 0 mx) 51)
  have bel3 := bel2.alloc (by omega) (.cells (itemC 0 mx) 51)
  have hF3 : F.answers (w2.alloc (.cells (itemC 0 mx) 51)).tape := by rw [bel3.tape]; exact hF
  have hit := item_most F w.heap.size (fun k => k = w.heap.size) w.heap.size (fun _ => nilS) (fun _ => 0) da len dc (Z.take len) mx _ hF3 B3 (fun _ _ => rfl) O3 (fun k hk => ⟨fun e => by have := HDK.out k hk; omega, by have := HDK.out k hk; omega⟩) (fun k hk => by omega) (by simp; omega) hl hmx hx0
  have HIT := hide hit
  clear hit B2 B3 hO2 bel2
  go_wp2_with fail
  refine HIT.out.mono ?_
  rintro e w4 ⟨ov, rfl, hO4, bel4, ids, T, V4, N4, B4, e4, b4, hTB, hids⟩
  obtain ⟨oa, oc, rfl, hOC⟩ := own_came hO4
  have E4 := hide e4
  have HML : Hid (∀ M, ids = .map (some M) → M < w4.heap.size) := fun M e => by
    rcases hids with h' | ⟨M', e', _, _, I⟩
    · rw [h'] at e; simp at e
    · have : M' = M := by rw [e'] at e; simpa using e
      subst this
      exact World.ownsMap.lt I
  have HBS : Hid (w.heap.size ≤ w4.heap.size) := (bel3.trans bel4).size
  have bel : Below w.heap.size w w4 := bel3.trans bel4
  have hcm : Came w4 a len Z := came_below c bel
  clear HIT bel4 bel3 O3 e4
  have hb2 := bl_le mx hmx
  go_wp2_with fail
  refine (len_any mx hmx _).mono ?_
  rintro e w5' ⟨rfl, rfl⟩
  go_wp2_with (at_builtin; refine wpList_append_own_at _ rfl (.tmp 54) (.tmp 59) 28 rfl 0 54 i54 (.int .i32 0) 1 4 Ybaf.underlying28 hi54 hy0 hy1 hy2 rfl (by decide) _ _ _ rfl ((World.ownsRow_nil w5' 0 54 1).alloc _) ⟨w5'.heap.size, 0, none⟩ 1 1 [.int .i32 (bl mx : Int)] rfl rfl ?d1 ?d2 ?d3 ?d4 ?d5 ?_)
  case d1 => exact cell_new rfl
  case d2 => intro u hu; simp at hu; subst hu; rfl
  case d3 => decide
  case d4 => decide
  case d5 => omega
  intro v' w6 hown hgrow hne hat
  obtain ⟨g6, cp6, rfl⟩ := some_of hown hne
  have KA : Keeps (fun _ => False) w5' w6 := ((Keeps.refl _ w5').alloc (.cells #[.int .i32 (bl mx : Int)] 54)).grown hgrow (fun k hk => by simp [Value.ownBlock] at hk)
  have B6 := B4.keep (S' := T) KA (fun _ e => e.elim) (fun _ e => e) (fun k hk => by have := B4.lt k hk; have := KA.size; omega)
  have O6 := own_keep hO4 KA (fun _ _ e => e)
  have hids6 : ids = .map none ∨ ∃ M, ids = .map (some M) ∧ ¬ T M ∧ w.heap.size ≤ M ∧ Im w6 M 1 DX := by
    rcases hids with h' | ⟨M, e, hM, hM', I⟩
    · exact .inl h'
    · exact .inr ⟨M, e, hM, hM', I.keep KA id⟩
  have bel6 : Below w.heap.size w w6 := bel.trans (KA.below bel.size (fun _ e => e.elim))
  have hW6 : w6.ownsRow 0 54 1 (.slice (some ⟨g6, 0, none⟩) 1 cp6) 1 (I32 [(bl mx : Int)]) := by simpa using hown
  clear hown hgrow hne hat KA B4 hO4 hids bel hOC hcm
  obtain ⟨wa, wc, hwv, hWC⟩ := own_came hW6
  obtain ⟨oa', oc', hov, hOC⟩ := own_came O6
  obtain ⟨rfl, rfl⟩ : oa' = oa ∧ oc' = oc := by simpa using hov.symm
  have hcm : Came w6 a len Z := came_below c bel6
  have k18 : w6.cell? ⟨w.heap.size, 18, none⟩ = some (.int .i64 (bl mx : Nat)) := B6.cell rfl
  have n1 : N4 2 ≤ (1 + bl mx)  := by rw [E4.out]; exact Nat.le_refl _
  have n2 : (1 + bl mx) ≤ N4 2 := by rw [E4.out]; exact Nat.le_refl _
  have HSM := hide (same_any oa' oc' a len cap wa 1 wc Z [(bl mx : Int)] w6 hl (by omega) hOC hcm hWC)
  have HWV := hide hwv
  clear hwv hov hcm hOC hWC
  go_wp2_with fail
  try rw [HWV.out]
  refine HSM.out.mono ?_
  rintro e w7 ⟨rfl, q, rfl⟩
  clear HSM
  go_wp2_with fail
  rcases hids6 with rfl | ⟨M, rfl, hM, hM', I⟩
  · refine (sym_nil T w.heap.size (bl mx) V4 N4 ⟨#[122, 122, 35, 102, 114, 101, 115, 104]⟩ _ (B6.draws q) (fun i hi => by have := b4 i hi; omega) (by decide)).mono ?_
    rintro e w8 ⟨rfl, M, V', N', _, _, _, K8, _⟩
    go_wp2
    go_ret
    refine ⟨ret_true (a := (N4 2 : Int)) (b := 1 + (bl mx : Int)) (by omega), ?_⟩
    exact (below_drewN bel6 q).trans (K8.below (by have := bel6.size; simp; omega) hTB)
  · refine (sym_new T w.heap.size (bl mx) V4 N4 M 1 DX ⟨#[122, 122, 35, 102, 114, 101, 115, 104]⟩ _ (B6.draws q) (fun i hi => by have := b4 i hi; omega) (by decide) (I.keep ((Keeps.refl (fun _ => False) _).drewN q) id) hM (by decide) (by decide)).mono ?_
    rintro e w8 ⟨rfl, K8⟩
    go_wp2
    go_ret
    refine ⟨ret_true (a := (N4 2 : Int)) (b := 1 + (bl mx : Int)) (by omega), ?_⟩
    exact (below_drewN bel6 q).trans (K8.below (by have := bel6.size; simp; omega) (fun k hk => by rcases hk with h' | h'; exact hTB k h'; omega))

set_option maxRecDepth 20000 in
set_option maxHeartbeats 4000000 in
theorem law_zero (F : Interp) (a : Option Addr) (len cap : Nat) (Z : List Int) (mn : Int) (w : World) (hF : F.answers w.tape) (hl : len ≤ 1024) (c : Came w a len Z) (hn : a = none → len = 0 ∧ cap = 0)  :
    Calls Ybaf.prog 3 #[.slice a len cap, .int .u64 mn, .int .u64 0] w fun e w' => e = .returned (.bool true) ∧ Below w.heap.size w w' := by
  obtain ⟨i54, hi54, hy0, hy1, hy2⟩ := info_parts Ybaf.info54
  have B1 := bld_new w
  have b1 : Below w.heap.size w (w.alloc (.cells #[.pointer none, .map none, nilS, nilS, nilS, nilS, nilS, nilS, nilS, nilS, nilS, nilS, nilS, nilS, nilS, .map none, .map none, .string ⟨#[114]⟩, .int .i64 0, .map none] 40)) := (Below.refl _ _).alloc (Nat.le_refl _) _
  have HC := hide (copy_any a len cap Z _ hl (came_below c b1) hn)
  clear hn
  go_enter Ybaf.func3, Ybaf.ntmps3
  go_wp2_with fail
  refine HC.out.mono ?_
  rintro e w2 ⟨da, dc, rfl, hO2, hdk, hb2⟩
  have hdk' : ∀ k, (Value.slice da len dc).ownBlock = some k → w.heap.size + 1 ≤ k := fun k hk => by have := hdk k hk; simp at this; exact this
  have HDK := hide hdk'
  have hL2 : w.heap.size < w2.heap.size := by have := hb2.size; simp at this; omega
  have bel2 : Below w.heap.size w w2 := b1.trans (hb2.mono (by simp))
  have B2 : Bld w2 (fun k => k = w.heap.size) w.heap.size (.map none) 0 (fun _ => nilS) (fun _ => 0) :=
    B1.keep (T := fun _ => False) (S' := fun k => k = w.heap.size) ⟨hb2.os, hb2.tape, hb2.output, hb2.size, fun k hk _ => hb2.block k hk⟩ (fun _ e => e.elim) (fun _ e => e) (fun k hk => by omega)
  clear HC hdk hdk' hb2 b1 B1
  have B3 := B2.alloc (.cells (itemC mn 0) 51)
  have O3 := hO2.alloc (.cells (itemC mn 0) 51)
  have bel3 := bel2.alloc (by omega) (.cells (itemC mn 0) 51)
  have hF3 : F.answers (w2.alloc (.cells (itemC mn 0) 51)).tape := by rw [bel3.tape]; exact hF
  have hit := item_zero w.heap.size (fun k => k = w.heap.size) w.heap.size (fun _ => nilS) (fun _ => 0) da len dc (Z.take len) mn _ B3 (fun _ _ => rfl) O3 (fun k hk => by omega) (by simp; omega)
  have HIT := hide hit
  clear hit B2 B3 hO2 bel2
  go_wp2_with fail
  refine HIT.out.mono ?_
  rintro e w4 ⟨ov, rfl, hO4, bel4, ids, T, V4, N4, B4, e4, b4, hTB, hids⟩
  obtain ⟨oa, oc, rfl, hOC⟩ := own_came hO4
  have E4 := hide e4
  have HML : Hid (∀ M, ids = .map (some M) → M < w4.heap.size) := fun M e => by
    rcases hids with h' | ⟨M', e', _, _, I⟩
    · rw [h'] at e; simp at e
    · have : M' = M := by rw [e'] at e; simpa using e
      subst this
      exact World.ownsMap.lt I
  have HBS : Hid (w.heap.size ≤ w4.heap.size) := (bel3.trans bel4).size
  have bel : Below w.heap.size w w4 := bel3.trans bel4
  have hcm : Came w4 a len Z := came_below c bel
  clear HIT bel4 bel3 O3 e4
  have hO5 : w4.ownsRow 0 54 1 (.slice oa (len + 0) oc) (len + 0) (I32 (Z.take len ++ [])) := by simpa using hO4
  have hW5 : w4.ownsRow 0 54 1 (.slice none 0 0) 0 (I32 []) := World.ownsRow_nil _ _ _ _
  clear hOC hcm hO4
  obtain ⟨wa, wc, hwv, hWC⟩ := own_came hW5
  obtain ⟨oa', oc', hov, hOC⟩ := own_came hO5
  obtain ⟨rfl, rfl⟩ : oa' = oa ∧ oc' = oc := by simpa using hov.symm
  have hcm : Came w4 a len Z := came_below c bel
  have k18 : w4.cell? ⟨w.heap.size, 18, none⟩ = some (.int .i64 (0 : Nat)) := B4.cell rfl
  have n1 : N4 2 ≤ 0  := by rw [E4.out]; exact Nat.le_refl _
  have n2 : 0 ≤ N4 2 := by rw [E4.out]; exact Nat.le_refl _
  have HSM := hide (same_any oa' oc' a len cap wa 0 wc Z [] w4 hl (by omega) hOC hcm hWC)
  have HWV := hide hwv
  clear hwv hov hcm hOC hWC
  go_wp2_with fail
  try rw [HWV.out]
  refine HSM.out.mono ?_
  rintro e w7 ⟨rfl, q, rfl⟩
  clear HSM
  go_wp2_with fail
  rcases hids with rfl | ⟨M, rfl, hM, hM', I⟩
  · refine (sym_nil T w.heap.size (0) V4 N4 ⟨#[122, 122, 35, 102, 114, 101, 115, 104]⟩ _ (B4.draws q) (fun i hi => by have := b4 i hi; omega) (by decide)).mono ?_
    rintro e w8 ⟨rfl, M, V', N', _, _, _, K8, _⟩
    go_wp2
    go_ret
    refine ⟨ret_true (a := (N4 2 : Int)) (b := 0) (by omega), ?_⟩
    exact (below_drewN bel q).trans (K8.below (by have := bel.size; simp; omega) hTB)
  · refine (sym_new T w.heap.size (0) V4 N4 M 1 DX ⟨#[122, 122, 35, 102, 114, 101, 115, 104]⟩ _ (B4.draws q) (fun i hi => by have := b4 i hi; omega) (by decide) (I.keep ((Keeps.refl (fun _ => False) _).drewN q) id) hM (by decide) (by decide)).mono ?_
    rintro e w8 ⟨rfl, K8⟩
    go_wp2
    go_ret
    refine ⟨ret_true (a := (N4 2 : Int)) (b := 0) (by omega), ?_⟩
    exact (below_drewN bel q).trans (K8.below (by have := bel.size; simp; omega) (fun k hk => by rcases hk with h' | h'; exact hTB k h'; omega))
end Go.Proofs.YbulkboqsFmt.Rp
