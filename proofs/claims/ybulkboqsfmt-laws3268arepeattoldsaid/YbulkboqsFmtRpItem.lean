import Derived.Test.YbulkboqsFmtRpSym2
namespace Go.Proofs.YbulkboqsFmt.Rp
open Go.RowKit Go Go.Maps Go.Extern.Stop Go.Stop Go.Extern

/-- The item: x~mn..mx. -/
abbrev itemC (mn mx : Int) : Array Value := #[.int .u8 0, .int .i64 0, .string ⟨#[120]⟩, .bool false, .string ⟨#[]⟩, .string ⟨#[]⟩, .slice none 0 0, .slice none 0 0, .int .u8 4, .int .u64 mn, .int .u64 mx]
abbrev DX : DataW Unit := (DataW.map []).put (.string [120]) (.lit (.int .i32 0))

/-- What item leaves. -/
def ItemPost (B0 : Nat) (w w' : World) (L : Nat) (ov : Value) (n : Nat) (xs : List Int) (hlp tot : Nat) : Prop :=
  w'.ownsRow 0 54 1 ov n (I32 xs) ∧ Below B0 w w' ∧ ∃ ids T V' N', Bld w' T L ids hlp V' N' ∧ N' 2 = tot ∧ (∀ i, at5 i → N' i ≤ 2000) ∧ (∀ k, T k → B0 ≤ k) ∧ (ids = .map none ∨ ∃ M, ids = .map (some M) ∧ ¬ T M ∧ B0 ≤ M ∧ Im w' M 1 DX)

theorem own_keep {S : Nat → Prop} {w w' : World} {b : Nat} {e : TypeId} {v : Value} {n : Nat} {ys : List Value} (h : w.ownsRow b e 1 v n ys) (hk : Keeps S w w') (hv : ∀ k, v.ownBlock = some k → ¬ S k) : w'.ownsRow b e 1 v n ys := by
  obtain ⟨h1, h2⟩ := h
  refine ⟨h1, ?_⟩
  rcases h2 with h2 | ⟨g, cap, cur, hv', hb, hh, r⟩
  · exact .inl h2
  · exact .inr ⟨g, cap, cur, hv', hb, (hk.block g (lt_of_block hh) (hv g (by rw [hv']; rfl))).trans hh, r⟩

set_option maxRecDepth 20000 in
set_option maxHeartbeats 1000000 in
theorem item_zero (B0 : Nat) (S : Nat → Prop) (L : Nat) (V : Nat → Value) (N : Nat → Nat) (da : Option Addr) (len dc : Nat) (Z : List Int) (mn : Int) (w : World) (h : Bld w S L (.map none) 0 V N) (hN : ∀ i, at5 i → N i = 0)
    (hd : w.ownsRow 0 54 1 (.slice da len dc) len (I32 Z)) (hS : ∀ k, S k → B0 ≤ k) (hB : B0 ≤ w.heap.size) :
    Calls Ybaf.prog 6 #[.pointer (some ⟨L, 0, none⟩), .slice da len dc, .agg (itemC mn 0)] w fun e w' => ∃ ov, e = .returned ov ∧ ItemPost B0 w w' L ov len Z 0 0 := by
  have B1 := (h.alloc (.cells (itemC mn 0) 51)).alloc (.cells atomC 48)
  have O1 := (hd.alloc (.cells (itemC mn 0) 51)).alloc (.cells atomC 48)
  have b1 := (((Below.refl B0 w).alloc hB (.cells (itemC mn 0) 51)).alloc (by simp; omega) (.cells atomC 48))
  go_enter Ybaf.func6, Ybaf.ntmps6
  go_wp2
  go_ret
  exact ⟨_, rfl, O1, b1, _, _, _, _, B1, hN 2 (.inl rfl), fun i hi => by rw [hN i hi]; omega, hS, .inl rfl⟩






/-! ### BOTH -/
theorem ex_val (mn n2 : Nat) (_h0 : 0 < mn) (hmn : mn < 18446744073709551616) (h : n2 = 1) : (if mn = 1 then (0 : Int) else ((n2 + lg mn - 1 : Nat) : Int)) = (lg mn : Int) := by
  by_cases e : mn = 1
  · rw [if_pos e, e, lg_one]; rfl
  · rw [if_neg e, h]
    have := lg_half mn (by omega) hmn
    omega
theorem at_val (k n2 l : Nat) (h : n2 = 1 + l) (h1 : 1 ≤ k) (hk : k < 18446744073709551616) : ((n2 + bl k - 1 : Nat) : Int) = ((l + bl k : Nat) : Int) := by
  have := bl_half k h1 hk
  omega

set_option maxRecDepth 20000 in
set_option maxHeartbeats 4000000 in
theorem item_both (F : Interp) (B0 : Nat) (S : Nat → Prop) (L : Nat) (V : Nat → Value) (N : Nat → Nat) (da : Option Addr) (len dc : Nat) (Z : List Int) (mn mx : Nat) (w : World) (hF : F.answers w.tape) (h : Bld w S L (.map none) 0 V N) (hN : ∀ i, at5 i → N i = 0)
    (hd : w.ownsRow 0 54 1 (.slice da len dc) len (I32 Z)) (hdS : ∀ k, (Value.slice da len dc).ownBlock = some k → ¬ S k ∧ B0 ≤ k) (hS : ∀ k, S k → B0 ≤ k) (hB : B0 ≤ w.heap.size) (hl : len ≤ 1024) (hmn : mn < 18446744073709551616) (hmx : mx < 18446744073709551616) (hx0 : 0 < mx) (h0 : 0 < mn) (hlt : mn < mx) :
    Calls Ybaf.prog 6 #[.pointer (some ⟨L, 0, none⟩), .slice da len dc, .agg (itemC mn mx)] w fun e w' => ∃ ov, e = .returned ov ∧ ItemPost B0 w w' L ov (len + 2) (Z ++ [(lg mn : Int), (lg mn + bl (mx - mn) : Nat)]) (lg mn + bl (mx - mn)) (1 + lg mn + bl (mx - mn)) := by
  obtain ⟨i54, hi54, hy0, hy1, hy2⟩ := info_parts Ybaf.info54
  have hmm := @run_makeMap Ybaf.prog
  have B1 := (h.alloc (.cells (itemC mn mx) 51)).alloc (.cells atomC 48)
  have K1 := ((Keeps.refl S w).alloc (.cells (itemC mn mx) 51)).alloc (.cells atomC 48)
  have hi1 : ((w.alloc (.cells (itemC mn mx) 51)).alloc (.cells atomC 48)).heap[w.heap.size]? = some (.cells (itemC mn mx) 51 (0, 0)) := (Below.heap_alloc _ _ _ (by simp)).trans (heap_alloc_new w _)
  have hs0 : ¬ S w.heap.size := fun hc => by have := h.lt _ hc; omega
  have hsing := single_any S L 0 V N _ B1 (fun i hi => by rw [hN i hi]; omega)
  rw [hN 2 (.inl rfl)] at hsing
  have HSG := hide hsing
  have hdlt : ∀ k, (Value.slice da len dc).ownBlock = some k → k < w.heap.size := fun k hk => (hd.lt k hk).2
  have HDL := hide hdlt
  have HDS := hide hdS
  have HDBB : Hid (∀ k, (Value.slice da len dc).ownBlock = some k → B0 ≤ k) := fun k hk => (hdS k hk).2
  clear hsing B1 hdlt hdS
  go_enter Ybaf.func6, Ybaf.ntmps6
  go_wp2_with fail
  refine HSG.out.mono ?_
  rintro e w1 ⟨rfl, M, V1, N1, T1, Bx, e1, b1, K1', hT1, hM1, hMs, I1⟩
  have hi2 := R_keep hi1 K1' hs0
  have KK1 := K1.trans (K1'.mono fun k hk => .inl hk)
  have hT1' : ∀ k, T1 k → Grow S w w1 k := fun k hk => by
    rcases hT1 k hk with h' | h'
    · exact .inl h'
    · exact .inr ⟨Nat.le_trans K1.size h'.1, h'.2⟩
  have hO1 := own_keep hd KK1 (fun k hk => (HDS.out k hk).1)
  have sz1 : w.heap.size + 2 ≤ w1.heap.size := by have := K1'.size; simp at this; omega
  have hMw : w.heap.size + 2 ≤ M := by simp at hMs; omega
  have hMlt : M < w1.heap.size := World.ownsMap.lt I1
  have hDT : ∀ k, (Value.slice da len dc).ownBlock = some k → ¬ T1 k := fun k hk hc => by
    rcases hT1' k hc with h' | h'
    · exact (HDS.out k hk).1 h'
    · have := HDL.out k hk; omega
  have HDT := hide hDT
  have hi0T : ¬ T1 w.heap.size := fun hc => by
    rcases hT1 _ hc with h' | h'
    · exact hs0 h'
    · simp at h'; omega
  have hT1lt := Bx.lt
  have N2eq : N1 2 = 1 := by rw [e1, hN 2 (.inl rfl)]
  have HN2 := hide N2eq
  have nb1 : ∀ i, at5 i → N1 i ≤ 1 := fun i hi => by have := b1 i hi; rw [hN i hi] at this; omega
  have hTB : ∀ k, T1 k → B0 ≤ k := fun k hk => by
    rcases hT1' k hk with h' | h'
    · exact hS k h'
    · omega
  have bel1 : Below B0 w w1 := KK1.below hB hS
  clear hi1 K1 K1' hT1 hT1' hMs e1 HSG N2eq hDT HDS KK1
  -- the map and the repeater
  obtain ⟨w2, hw2⟩ : ∃ w2, w2 = (w1.alloc (.map #[] 0)).alloc (.cells #[.pointer (some ⟨L, 0, none⟩), .int .i32 0, .map (some w1.heap.size)] 73) := ⟨_, rfl⟩
  have B2 : Bld w2 T1 L (.map (some M)) 0 V1 N1 := by rw [hw2]; exact (Bx.alloc _).alloc _
  have K2 : Keeps (fun _ => False) w1 w2 := by rw [hw2]; exact ((Keeps.refl _ _).alloc _).alloc _
  have hR2 : w2.heap[w1.heap.size + 1]? = some (.cells (rc L 0 w1.heap.size) 73 (0, 0)) := by
    have := heap_alloc_new (w1.alloc (.map #[] 0)) (.cells #[.pointer (some ⟨L, 0, none⟩), .int .i32 0, .map (some w1.heap.size)] 73)
    rw [← hw2, show (w1.alloc (.map #[] 0)).heap.size = w1.heap.size + 1 by simp] at this
    exact this
  have U2 : Um w2 w1.heap.size 0 (.map []) := by
    rw [hw2]; exact (World.ownsMap_made w1 Ybaf.prog 23 (plainElem (H := Unit) Ybaf.prog 54)).alloc _
  have I2 : Im w2 M 1 DX := by
    have := I1.keep K2 id
    rw [hN 2 (.inl rfl)] at this
    exact this
  have hO2 : w2.ownsRow 0 54 1 (.slice da len dc) len (I32 Z) := own_keep hO1 K2 (fun _ _ hc => hc)
  have hi3 := R_keep hi2 K2 id
  have sz2 : w2.heap.size = w1.heap.size + 2 := by rw [hw2]; simp
  have SZ2 := hide sz2
  have bel2 : Below B0 w w2 := bel1.trans (K2.below (by have := bel1.size; omega) (fun _ hc => hc.elim))
  have hRT : ¬ T1 (w1.heap.size + 1) := fun hc => by have := hT1lt _ hc; omega
  have hUT : ¬ T1 w1.heap.size := fun hc => by have := hT1lt _ hc; omega
  have hF2 : F.answers w2.tape := by rw [bel2.tape]; exact hF
  have m9 : w2.cell? ⟨w.heap.size, 9, none⟩ = some (.int .u64 mn) := cell_of hi3 9 _ rfl
  have m10 : w2.cell? ⟨w.heap.size, 10, none⟩ = some (.int .u64 mx) := cell_of hi3 10 _ rfl
  have HW2 := hide hw2
  have c9 : ((w1.alloc (.map #[] 0)).alloc (.cells #[.pointer (some ⟨L, 0, none⟩), .int .i32 0, .map (some w1.heap.size)] 73)).cell? ⟨w.heap.size, 9, none⟩ = some (.int .u64 mn) := by rw [hw2] at m9; exact m9
  have c10 : ((w1.alloc (.map #[] 0)).alloc (.cells #[.pointer (some ⟨L, 0, none⟩), .int .i32 0, .map (some w1.heap.size)] 73)).cell? ⟨w.heap.size, 10, none⟩ = some (.int .u64 mx) := by rw [hw2] at m10; exact m10
  clear hw2 hO1 I1 hi2 K2 sz2 Bx bel1 hT1lt
  have hlg := lg_le mn hmn
  have hex := exactly_any F mn (by omega) hmn T1 L (.map (some M)) 0 V1 N1 (w1.heap.size + 1) w1.heap.size 0 w2 hF2 B2 (fun i hi => by have := nb1 i hi; omega) (by omega) hRT hR2
  rw [ex_val mn (N1 2) h0 hmn HN2.out, Nat.zero_add] at hex
  have HEX := hide hex
  clear hex
  go_wp2_with fail
  rw [← HW2.out]
  refine HEX.out.mono ?_
  rintro e w3 ⟨rfl, V3, N3, B3, e3, b3, K3⟩
  have hR3 := R_keep hR2 K3 hRT
  have hU3 := U2.keep K3 hUT
  have I3 := I2.keep K3 hM1
  have hO3 := own_keep hO2 K3 HDT.out
  have hi4 := R_keep hi3 K3 hi0T
  have sz3 := K3.size
  have bel3 : Below B0 w w3 := bel2.trans (K3.below (by have := bel2.size; omega) hTB)
  have hT3B : ∀ k, Grow T1 w2 w3 k → B0 ≤ k := fun k hk => by
    rcases hk with h' | h'
    · exact hTB k h'
    · have := bel2.size; omega
  have hsz2 := SZ2.out
  have hDT3 : ∀ k, (Value.slice da len dc).ownBlock = some k → ¬ Grow T1 w2 w3 k := fun k hk hc => by
    rcases hc with h' | h'
    · exact HDT.out k hk h'
    · have := HDL.out k hk; omega
  have HDT3 := hide hDT3
  have hRT3 : ¬ Grow T1 w2 w3 (w1.heap.size + 1) := fun hc => by rcases hc with h' | h'; exact hRT h'; omega
  have hUT3 : ¬ Grow T1 w2 w3 w1.heap.size := fun hc => by rcases hc with h' | h'; exact hUT h'; omega
  have hMT3 : ¬ Grow T1 w2 w3 M := fun hc => by rcases hc with h' | h'; exact hM1 h'; omega
  have hlt3 : ∀ k, Grow T1 w2 w3 k → k < w3.heap.size := B3.lt
  generalize Grow T1 w2 w3 = T3 at *
  have E3 := hide e3
  clear hR2 U2 I2 hO2 hi3 K3 HW2 m9 m10 c9 c10 e3 bel2 hRT hUT hM1 hDT3 HDT HEX hsz2 B2
  have m9 : w3.cell? ⟨w.heap.size, 9, none⟩ = some (.int .u64 mn) := cell_of hi4 9 _ rfl
  have m10 : w3.cell? ⟨w.heap.size, 10, none⟩ = some (.int .u64 mx) := cell_of hi4 10 _ rfl
  go_wp2_with (at_builtin; refine wpList_append_own_at _ rfl (.tmp 127) (.tmp 131) 28 rfl 0 54 i54 (.int .i32 0) 1 4 Ybaf.underlying28 hi54 hy0 hy1 hy2 rfl (by decide) _ _ _ rfl (hO3.alloc _) ⟨w3.heap.size, 0, none⟩ 1 1 [.int .i32 (lg mn)] rfl rfl ?c1 ?c2 ?c3 ?c4 ?c5 ?_)
  case c1 => exact cell_new rfl
  case c2 => intro u hu; simp at hu; subst hu; rfl
  case c3 => unfold maxLen; omega
  case c4 => omega
  case c5 => omega
  intro v' w4 hown hgrow hne hat
  obtain ⟨g, cp, rfl⟩ := some_of hown hne
  have sz4 : w3.heap.size + 1 ≤ w4.heap.size := by have := hgrow.size; simp at this; omega
  have B4 := (B3.alloc (.cells #[.int .i32 (lg mn)] 54)).keep (S' := T3) (keeps_of_grown hgrow) (fun k hk => HDT3.out k hk) (fun _ hk => hk) (fun k hk => by have := hlt3 k hk; omega)
  have KA : Keeps (fun k => (Value.slice da len dc).ownBlock = some k) w3 w4 := ((Keeps.refl _ w3).alloc (.cells #[.int .i32 (lg mn)] 54)).grown hgrow (fun k hk => .inl hk)
  have hR4 := R_keep hR3 KA (fun hc => by have := HDL.out _ hc; omega)
  have hU4 := hU3.keep KA (fun hc => by have := HDL.out _ hc; omega)
  have I4 := I3.keep KA (fun hc => by have := HDL.out _ hc; omega)
  have hi5 := R_keep hi4 KA (fun hc => by have := HDL.out _ hc; omega)
  have hO4 : w4.ownsRow 0 54 1 (.slice (some ⟨g, 0, none⟩) (len + 1) cp) (len + 1) (I32 (Z ++ [(lg mn : Int)])) := by simpa using hown
  have hgT : ¬ T3 g ∧ g ≠ w1.heap.size + 1 ∧ g ≠ w1.heap.size ∧ g ≠ M := by
    rcases hat with e | e
    · refine ⟨HDT3.out g (by rw [← e]; rfl), ?_⟩
      have := HDL.out g (by rw [← e]; rfl)
      omega
    · have e' : g = w3.heap.size + 1 := by simpa [Value.ownBlock] using e
      refine ⟨fun hc => by have := hlt3 _ hc; omega, ?_⟩
      have := SZ2.out
      omega
  have hDB : ∀ k, (Value.slice da len dc).ownBlock = some k → B0 ≤ k := fun k hk => HDBB.out k hk
  have hgB : B0 ≤ g := by
    rcases hat with e | e
    · exact hDB g (by rw [← e]; rfl)
    · have e' : g = w3.heap.size + 1 := by simpa [Value.ownBlock] using e
      have := bel3.size; omega
  have bel4 : Below B0 w w4 := bel3.trans (KA.below (by have := bel3.size; omega) hDB)
  have hF4 : F.answers w4.tape := by rw [bel4.tape]; exact hF
  clear hown hgrow hne hat hO3 hR3 hU3 I3 hi4 KA hDB bel3 m9 m10 B3
  have m9 : w4.cell? ⟨w.heap.size, 9, none⟩ = some (.int .u64 mn) := cell_of hi5 9 _ rfl
  have m10 : w4.cell? ⟨w.heap.size, 10, none⟩ = some (.int .u64 mx) := cell_of hi5 10 _ rfl
  have hbl := bl_le (mx - mn) (by omega)
  have hatm := atMost_any F (mx - mn) (by omega) (by omega) T3 L (.map (some M)) (lg mn) V3 N3 (w1.heap.size + 1) w1.heap.size 0 w4 hF4 B4 (fun i hi => by have := nb1 i hi; have := b3 i hi; omega) (by omega) hRT3 hR4 hU4 hUT3 (by omega)
  rw [at_val (mx - mn) (N3 2) (lg mn) (by rw [E3.out, HN2.out]) (by omega) (by omega)] at hatm
  have HAT := hide hatm
  clear hatm
  go_wp2_with fail
  rw [show ((mx : Int) - (mn : Int)) = ((mx - mn : Nat) : Int) from by omega]
  refine HAT.out.mono ?_
  rintro e w5 ⟨rfl, V5, N5, D5, B5, e5, b5, K5, hU5, hD5, hM5⟩
  have hO5 := own_keep hO4 K5 (fun k hk hc => by
    have ek : k = g := by simpa [Value.ownBlock] using hk.symm
    subst ek
    rcases hc with h' | h'
    · exact hgT.1 h'
    · exact hgT.2.2.1 h')
  have I5 := I4.keep K5 (fun hc => by rcases hc with h' | h'; exact hMT3 h'; omega)
  have sz5 := K5.size
  have bel5 : Below B0 w w5 := bel4.trans (K5.below (by have := bel4.size; omega) (fun k hk => by
    rcases hk with h' | h'
    · exact hT3B k h'
    · have := bel4.size; omega))
  have hT5B : ∀ k, Grow T3 w4 w5 k → B0 ≤ k := fun k hk => by
    rcases hk with h' | h'
    · exact hT3B k h'
    · have := bel4.size; omega
  have hlt5 : ∀ k, Grow T3 w4 w5 k → k < w5.heap.size := B5.lt
  have hglt : g < w4.heap.size := (hO4.lt g rfl).2
  have hgT5 : ¬ Grow T3 w4 w5 g := fun hc => by rcases hc with h' | h'; exact hgT.1 h'; omega
  have hMT5 : ¬ Grow T3 w4 w5 M := fun hc => by rcases hc with h' | h'; exact hMT3 h'; have := SZ2.out; omega
  generalize Grow T3 w4 w5 = T5 at *
  have E5 := hide e5
  clear e5 hO4 I4 K5 hU5 hD5 hM5 hi5 hR4 hU4 m9 m10 B4 HAT bel4 hF4
  go_wp2_with (at_builtin; refine wpList_append_own_at _ rfl (.tmp 138) (.tmp 145) 28 rfl 0 54 i54 (.int .i32 0) 1 4 Ybaf.underlying28 hi54 hy0 hy1 hy2 rfl (by decide) _ _ _ rfl (hO5.alloc _) ⟨w5.heap.size, 0, none⟩ 1 1 [.int .i32 (lg mn + bl (mx - mn) : Nat)] rfl rfl ?d1 ?d2 ?d3 ?d4 ?d5 ?_)
  case d1 => exact cell_new rfl
  case d2 => intro u hu; simp at hu; subst hu; rfl
  case d3 => unfold maxLen; omega
  case d4 => omega
  case d5 => omega
  intro v' w6 hown hgrow hne hat
  obtain ⟨g6, cp6, rfl⟩ := some_of hown hne
  have sz6 : w5.heap.size + 1 ≤ w6.heap.size := by have := hgrow.size; simp at this; omega
  have B6 := (B5.alloc (.cells #[.int .i32 (lg mn + bl (mx - mn) : Nat)] 54)).keep (S' := T5) (keeps_of_grown hgrow) (fun k hk => by simp [Value.ownBlock] at hk; subst hk; exact hgT5) (fun _ hk => hk) (fun k hk => by have := hlt5 k hk; omega)
  have KA : Keeps (fun k => k = g) w5 w6 := ((Keeps.refl _ w5).alloc (.cells #[.int .i32 (lg mn + bl (mx - mn) : Nat)] 54)).grown hgrow (fun k hk => .inl (by simpa [Value.ownBlock] using hk.symm))
  have I6 := I5.keep KA (fun hc => hgT.2.2.2 hc.symm)
  have hO6 : w6.ownsRow 0 54 1 (.slice (some ⟨g6, 0, none⟩) (len + 2) cp6) (len + 2) (I32 (Z ++ [(lg mn : Int), (lg mn + bl (mx - mn) : Nat)])) := by simpa using hown
  have bel6 : Below B0 w w6 := bel5.trans (KA.below (by have := bel5.size; omega) (fun k hk => by subst hk; exact hgB))
  clear hown hgrow hne hat
  go_wp2
  go_ret
  exact ⟨_, rfl, hO6, bel6, _, T5, _, _, B6, by rw [E5.out, E3.out, HN2.out], fun i hi => by have := nb1 i hi; have := b3 i hi; have := b5 i hi; omega, hT5B, .inr ⟨M, rfl, hMT5, by have := bel6.size; omega, I6⟩⟩

set_option maxRecDepth 20000 in
set_option maxHeartbeats 4000000 in
theorem item_exact (F : Interp) (B0 : Nat) (S : Nat → Prop) (L : Nat) (V : Nat → Value) (N : Nat → Nat) (da : Option Addr) (len dc : Nat) (Z : List Int) (mn mx : Nat) (w : World) (hF : F.answers w.tape) (h : Bld w S L (.map none) 0 V N) (hN : ∀ i, at5 i → N i = 0)
    (hd : w.ownsRow 0 54 1 (.slice da len dc) len (I32 Z)) (hdS : ∀ k, (Value.slice da len dc).ownBlock = some k → ¬ S k ∧ B0 ≤ k) (hS : ∀ k, S k → B0 ≤ k) (hB : B0 ≤ w.heap.size) (hl : len ≤ 1024) (hmn : mn < 18446744073709551616) (hmx : mx < 18446744073709551616) (hx0 : 0 < mx) (h0 : 0 < mn) (hle : mx ≤ mn) :
    Calls Ybaf.prog 6 #[.pointer (some ⟨L, 0, none⟩), .slice da len dc, .agg (itemC mn mx)] w fun e w' => ∃ ov, e = .returned ov ∧ ItemPost B0 w w' L ov (len + 1) (Z ++ [(lg mn : Int)]) (lg mn) (1 + lg mn) := by
  obtain ⟨i54, hi54, hy0, hy1, hy2⟩ := info_parts Ybaf.info54
  have hmm := @run_makeMap Ybaf.prog
  have B1 := (h.alloc (.cells (itemC mn mx) 51)).alloc (.cells atomC 48)
  have K1 := ((Keeps.refl S w).alloc (.cells (itemC mn mx) 51)).alloc (.cells atomC 48)
  have hi1 : ((w.alloc (.cells (itemC mn mx) 51)).alloc (.cells atomC 48)).heap[w.heap.size]? = some (.cells (itemC mn mx) 51 (0, 0)) := (Below.heap_alloc _ _ _ (by simp)).trans (heap_alloc_new w _)
  have hs0 : ¬ S w.heap.size := fun hc => by have := h.lt _ hc; omega
  have hsing := single_any S L 0 V N _ B1 (fun i hi => by rw [hN i hi]; omega)
  rw [hN 2 (.inl rfl)] at hsing
  have HSG := hide hsing
  have hdlt : ∀ k, (Value.slice da len dc).ownBlock = some k → k < w.heap.size := fun k hk => (hd.lt k hk).2
  have HDL := hide hdlt
  have HDS := hide hdS
  have HDBB : Hid (∀ k, (Value.slice da len dc).ownBlock = some k → B0 ≤ k) := fun k hk => (hdS k hk).2
  clear hsing B1 hdlt hdS
  go_enter Ybaf.func6, Ybaf.ntmps6
  go_wp2_with fail
  refine HSG.out.mono ?_
  rintro e w1 ⟨rfl, M, V1, N1, T1, Bx, e1, b1, K1', hT1, hM1, hMs, I1⟩
  have hi2 := R_keep hi1 K1' hs0
  have KK1 := K1.trans (K1'.mono fun k hk => .inl hk)
  have hT1' : ∀ k, T1 k → Grow S w w1 k := fun k hk => by
    rcases hT1 k hk with h' | h'
    · exact .inl h'
    · exact .inr ⟨Nat.le_trans K1.size h'.1, h'.2⟩
  have hO1 := own_keep hd KK1 (fun k hk => (HDS.out k hk).1)
  have sz1 : w.heap.size + 2 ≤ w1.heap.size := by have := K1'.size; simp at this; omega
  have hMw : w.heap.size + 2 ≤ M := by simp at hMs; omega
  have hMlt : M < w1.heap.size := World.ownsMap.lt I1
  have hDT : ∀ k, (Value.slice da len dc).ownBlock = some k → ¬ T1 k := fun k hk hc => by
    rcases hT1' k hc with h' | h'
    · exact (HDS.out k hk).1 h'
    · have := HDL.out k hk; omega
  have HDT := hide hDT
  have hi0T : ¬ T1 w.heap.size := fun hc => by
    rcases hT1 _ hc with h' | h'
    · exact hs0 h'
    · simp at h'; omega
  have hT1lt := Bx.lt
  have N2eq : N1 2 = 1 := by rw [e1, hN 2 (.inl rfl)]
  have HN2 := hide N2eq
  have nb1 : ∀ i, at5 i → N1 i ≤ 1 := fun i hi => by have := b1 i hi; rw [hN i hi] at this; omega
  have hTB : ∀ k, T1 k → B0 ≤ k := fun k hk => by
    rcases hT1' k hk with h' | h'
    · exact hS k h'
    · omega
  have bel1 : Below B0 w w1 := KK1.below hB hS
  clear hi1 K1 K1' hT1 hT1' hMs e1 HSG N2eq hDT HDS KK1
  -- the map and the repeater
  obtain ⟨w2, hw2⟩ : ∃ w2, w2 = (w1.alloc (.map #[] 0)).alloc (.cells #[.pointer (some ⟨L, 0, none⟩), .int .i32 0, .map (some w1.heap.size)] 73) := ⟨_, rfl⟩
  have B2 : Bld w2 T1 L (.map (some M)) 0 V1 N1 := by rw [hw2]; exact (Bx.alloc _).alloc _
  have K2 : Keeps (fun _ => False) w1 w2 := by rw [hw2]; exact ((Keeps.refl _ _).alloc _).alloc _
  have hR2 : w2.heap[w1.heap.size + 1]? = some (.cells (rc L 0 w1.heap.size) 73 (0, 0)) := by
    have := heap_alloc_new (w1.alloc (.map #[] 0)) (.cells #[.pointer (some ⟨L, 0, none⟩), .int .i32 0, .map (some w1.heap.size)] 73)
    rw [← hw2, show (w1.alloc (.map #[] 0)).heap.size = w1.heap.size + 1 by simp] at this
    exact this
  have U2 : Um w2 w1.heap.size 0 (.map []) := by
    rw [hw2]; exact (World.ownsMap_made w1 Ybaf.prog 23 (plainElem (H := Unit) Ybaf.prog 54)).alloc _
  have I2 : Im w2 M 1 DX := by
    have := I1.keep K2 id
    rw [hN 2 (.inl rfl)] at this
    exact this
  have hO2 : w2.ownsRow 0 54 1 (.slice da len dc) len (I32 Z) := own_keep hO1 K2 (fun _ _ hc => hc)
  have hi3 := R_keep hi2 K2 id
  have sz2 : w2.heap.size = w1.heap.size + 2 := by rw [hw2]; simp
  have SZ2 := hide sz2
  have bel2 : Below B0 w w2 := bel1.trans (K2.below (by have := bel1.size; omega) (fun _ hc => hc.elim))
  have hRT : ¬ T1 (w1.heap.size + 1) := fun hc => by have := hT1lt _ hc; omega
  have hUT : ¬ T1 w1.heap.size := fun hc => by have := hT1lt _ hc; omega
  have hF2 : F.answers w2.tape := by rw [bel2.tape]; exact hF
  have m9 : w2.cell? ⟨w.heap.size, 9, none⟩ = some (.int .u64 mn) := cell_of hi3 9 _ rfl
  have m10 : w2.cell? ⟨w.heap.size, 10, none⟩ = some (.int .u64 mx) := cell_of hi3 10 _ rfl
  have HW2 := hide hw2
  have c9 : ((w1.alloc (.map #[] 0)).alloc (.cells #[.pointer (some ⟨L, 0, none⟩), .int .i32 0, .map (some w1.heap.size)] 73)).cell? ⟨w.heap.size, 9, none⟩ = some (.int .u64 mn) := by rw [hw2] at m9; exact m9
  have c10 : ((w1.alloc (.map #[] 0)).alloc (.cells #[.pointer (some ⟨L, 0, none⟩), .int .i32 0, .map (some w1.heap.size)] 73)).cell? ⟨w.heap.size, 10, none⟩ = some (.int .u64 mx) := by rw [hw2] at m10; exact m10
  clear hw2 hO1 I1 hi2 K2 sz2 Bx bel1 hT1lt
  have hlg := lg_le mn hmn
  have hex := exactly_any F mn (by omega) hmn T1 L (.map (some M)) 0 V1 N1 (w1.heap.size + 1) w1.heap.size 0 w2 hF2 B2 (fun i hi => by have := nb1 i hi; omega) (by omega) hRT hR2
  rw [ex_val mn (N1 2) h0 hmn HN2.out, Nat.zero_add] at hex
  have HEX := hide hex
  clear hex
  go_wp2_with fail
  rw [← HW2.out]
  refine HEX.out.mono ?_
  rintro e w3 ⟨rfl, V3, N3, B3, e3, b3, K3⟩
  have hR3 := R_keep hR2 K3 hRT
  have hU3 := U2.keep K3 hUT
  have I3 := I2.keep K3 hM1
  have hO3 := own_keep hO2 K3 HDT.out
  have hi4 := R_keep hi3 K3 hi0T
  have sz3 := K3.size
  have bel3 : Below B0 w w3 := bel2.trans (K3.below (by have := bel2.size; omega) hTB)
  have hT3B : ∀ k, Grow T1 w2 w3 k → B0 ≤ k := fun k hk => by
    rcases hk with h' | h'
    · exact hTB k h'
    · have := bel2.size; omega
  have hsz2 := SZ2.out
  have hDT3 : ∀ k, (Value.slice da len dc).ownBlock = some k → ¬ Grow T1 w2 w3 k := fun k hk hc => by
    rcases hc with h' | h'
    · exact HDT.out k hk h'
    · have := HDL.out k hk; omega
  have HDT3 := hide hDT3
  have hRT3 : ¬ Grow T1 w2 w3 (w1.heap.size + 1) := fun hc => by rcases hc with h' | h'; exact hRT h'; omega
  have hUT3 : ¬ Grow T1 w2 w3 w1.heap.size := fun hc => by rcases hc with h' | h'; exact hUT h'; omega
  have hMT3 : ¬ Grow T1 w2 w3 M := fun hc => by rcases hc with h' | h'; exact hM1 h'; omega
  have hlt3 : ∀ k, Grow T1 w2 w3 k → k < w3.heap.size := B3.lt
  generalize Grow T1 w2 w3 = T3 at *
  have E3 := hide e3
  clear hR2 U2 I2 hO2 hi3 K3 HW2 m9 m10 c9 c10 e3 bel2 hRT hUT hM1 hDT3 HDT HEX hsz2 B2
  have m9 : w3.cell? ⟨w.heap.size, 9, none⟩ = some (.int .u64 mn) := cell_of hi4 9 _ rfl
  have m10 : w3.cell? ⟨w.heap.size, 10, none⟩ = some (.int .u64 mx) := cell_of hi4 10 _ rfl
  go_wp2_with (at_builtin; refine wpList_append_own_at _ rfl (.tmp 127) (.tmp 131) 28 rfl 0 54 i54 (.int .i32 0) 1 4 Ybaf.underlying28 hi54 hy0 hy1 hy2 rfl (by decide) _ _ _ rfl (hO3.alloc _) ⟨w3.heap.size, 0, none⟩ 1 1 [.int .i32 (lg mn)] rfl rfl ?c1 ?c2 ?c3 ?c4 ?c5 ?_)
  case c1 => exact cell_new rfl
  case c2 => intro u hu; simp at hu; subst hu; rfl
  case c3 => unfold maxLen; omega
  case c4 => omega
  case c5 => omega
  intro v' w4 hown hgrow hne hat
  obtain ⟨g, cp, rfl⟩ := some_of hown hne
  have sz4 : w3.heap.size + 1 ≤ w4.heap.size := by have := hgrow.size; simp at this; omega
  have B4 := (B3.alloc (.cells #[.int .i32 (lg mn)] 54)).keep (S' := T3) (keeps_of_grown hgrow) (fun k hk => HDT3.out k hk) (fun _ hk => hk) (fun k hk => by have := hlt3 k hk; omega)
  have KA : Keeps (fun k => (Value.slice da len dc).ownBlock = some k) w3 w4 := ((Keeps.refl _ w3).alloc (.cells #[.int .i32 (lg mn)] 54)).grown hgrow (fun k hk => .inl hk)
  have hR4 := R_keep hR3 KA (fun hc => by have := HDL.out _ hc; omega)
  have hU4 := hU3.keep KA (fun hc => by have := HDL.out _ hc; omega)
  have I4 := I3.keep KA (fun hc => by have := HDL.out _ hc; omega)
  have hi5 := R_keep hi4 KA (fun hc => by have := HDL.out _ hc; omega)
  have hO4 : w4.ownsRow 0 54 1 (.slice (some ⟨g, 0, none⟩) (len + 1) cp) (len + 1) (I32 (Z ++ [(lg mn : Int)])) := by simpa using hown
  have hgT : ¬ T3 g ∧ g ≠ w1.heap.size + 1 ∧ g ≠ w1.heap.size ∧ g ≠ M := by
    rcases hat with e | e
    · refine ⟨HDT3.out g (by rw [← e]; rfl), ?_⟩
      have := HDL.out g (by rw [← e]; rfl)
      omega
    · have e' : g = w3.heap.size + 1 := by simpa [Value.ownBlock] using e
      refine ⟨fun hc => by have := hlt3 _ hc; omega, ?_⟩
      have := SZ2.out
      omega
  have hDB : ∀ k, (Value.slice da len dc).ownBlock = some k → B0 ≤ k := fun k hk => HDBB.out k hk
  have hgB : B0 ≤ g := by
    rcases hat with e | e
    · exact hDB g (by rw [← e]; rfl)
    · have e' : g = w3.heap.size + 1 := by simpa [Value.ownBlock] using e
      have := bel3.size; omega
  have bel4 : Below B0 w w4 := bel3.trans (KA.below (by have := bel3.size; omega) hDB)
  have hF4 : F.answers w4.tape := by rw [bel4.tape]; exact hF
  clear hown hgrow hne hat hO3 hR3 hU3 I3 hi4 KA hDB bel3 m9 m10 B3
  have m9 : w4.cell? ⟨w.heap.size, 9, none⟩ = some (.int .u64 mn) := cell_of hi5 9 _ rfl
  have m10 : w4.cell? ⟨w.heap.size, 10, none⟩ = some (.int .u64 mx) := cell_of hi5 10 _ rfl
  go_wp2
  go_ret
  exact ⟨_, rfl, hO4, bel4, _, T3, _, _, B4, by rw [E3.out, HN2.out], fun i hi => by have := nb1 i hi; have := b3 i hi; omega, hT3B, .inr ⟨M, rfl, hMT3, by omega, I4⟩⟩

set_option maxRecDepth 20000 in
set_option maxHeartbeats 4000000 in
theorem item_most (F : Interp) (B0 : Nat) (S : Nat → Prop) (L : Nat) (V : Nat → Value) (N : Nat → Nat) (da : Option Addr) (len dc : Nat) (Z : List Int) (mx : Nat) (w : World) (hF : F.answers w.tape) (h : Bld w S L (.map none) 0 V N) (hN : ∀ i, at5 i → N i = 0)
    (hd : w.ownsRow 0 54 1 (.slice da len dc) len (I32 Z)) (hdS : ∀ k, (Value.slice da len dc).ownBlock = some k → ¬ S k ∧ B0 ≤ k) (hS : ∀ k, S k → B0 ≤ k) (hB : B0 ≤ w.heap.size) (hl : len ≤ 1024) (hmx : mx < 18446744073709551616) (hx0 : 0 < mx) :
    Calls Ybaf.prog 6 #[.pointer (some ⟨L, 0, none⟩), .slice da len dc, .agg (itemC 0 mx)] w fun e w' => ∃ ov, e = .returned ov ∧ ItemPost B0 w w' L ov (len + 1) (Z ++ [(bl mx : Int)]) (bl mx) (1 + bl mx) := by
  obtain ⟨i54, hi54, hy0, hy1, hy2⟩ := info_parts Ybaf.info54
  have hmm := @run_makeMap Ybaf.prog
  have B1 := (h.alloc (.cells (itemC 0 mx) 51)).alloc (.cells atomC 48)
  have K1 := ((Keeps.refl S w).alloc (.cells (itemC 0 mx) 51)).alloc (.cells atomC 48)
  have hi1 : ((w.alloc (.cells (itemC 0 mx) 51)).alloc (.cells atomC 48)).heap[w.heap.size]? = some (.cells (itemC 0 mx) 51 (0, 0)) := (Below.heap_alloc _ _ _ (by simp)).trans (heap_alloc_new w _)
  have hs0 : ¬ S w.heap.size := fun hc => by have := h.lt _ hc; omega
  have hsing := single_any S L 0 V N _ B1 (fun i hi => by rw [hN i hi]; omega)
  rw [hN 2 (.inl rfl)] at hsing
  have HSG := hide hsing
  have hdlt : ∀ k, (Value.slice da len dc).ownBlock = some k → k < w.heap.size := fun k hk => (hd.lt k hk).2
  have HDL := hide hdlt
  have HDS := hide hdS
  have HDBB : Hid (∀ k, (Value.slice da len dc).ownBlock = some k → B0 ≤ k) := fun k hk => (hdS k hk).2
  clear hsing B1 hdlt hdS
  go_enter Ybaf.func6, Ybaf.ntmps6
  go_wp2_with fail
  refine HSG.out.mono ?_
  rintro e w1 ⟨rfl, M, V1, N1, T1, Bx, e1, b1, K1', hT1, hM1, hMs, I1⟩
  have hi2 := R_keep hi1 K1' hs0
  have KK1 := K1.trans (K1'.mono fun k hk => .inl hk)
  have hT1' : ∀ k, T1 k → Grow S w w1 k := fun k hk => by
    rcases hT1 k hk with h' | h'
    · exact .inl h'
    · exact .inr ⟨Nat.le_trans K1.size h'.1, h'.2⟩
  have hO1 := own_keep hd KK1 (fun k hk => (HDS.out k hk).1)
  have sz1 : w.heap.size + 2 ≤ w1.heap.size := by have := K1'.size; simp at this; omega
  have hMw : w.heap.size + 2 ≤ M := by simp at hMs; omega
  have hMlt : M < w1.heap.size := World.ownsMap.lt I1
  have hDT : ∀ k, (Value.slice da len dc).ownBlock = some k → ¬ T1 k := fun k hk hc => by
    rcases hT1' k hc with h' | h'
    · exact (HDS.out k hk).1 h'
    · have := HDL.out k hk; omega
  have HDT := hide hDT
  have hi0T : ¬ T1 w.heap.size := fun hc => by
    rcases hT1 _ hc with h' | h'
    · exact hs0 h'
    · simp at h'; omega
  have hT1lt := Bx.lt
  have N2eq : N1 2 = 1 := by rw [e1, hN 2 (.inl rfl)]
  have HN2 := hide N2eq
  have nb1 : ∀ i, at5 i → N1 i ≤ 1 := fun i hi => by have := b1 i hi; rw [hN i hi] at this; omega
  have hTB : ∀ k, T1 k → B0 ≤ k := fun k hk => by
    rcases hT1' k hk with h' | h'
    · exact hS k h'
    · omega
  have bel1 : Below B0 w w1 := KK1.below hB hS
  clear hi1 K1 K1' hT1 hT1' hMs e1 HSG N2eq hDT HDS KK1
  -- the map and the repeater
  obtain ⟨w2, hw2⟩ : ∃ w2, w2 = (w1.alloc (.map #[] 0)).alloc (.cells #[.pointer (some ⟨L, 0, none⟩), .int .i32 0, .map (some w1.heap.size)] 73) := ⟨_, rfl⟩
  have B2 : Bld w2 T1 L (.map (some M)) 0 V1 N1 := by rw [hw2]; exact (Bx.alloc _).alloc _
  have K2 : Keeps (fun _ => False) w1 w2 := by rw [hw2]; exact ((Keeps.refl _ _).alloc _).alloc _
  have hR2 : w2.heap[w1.heap.size + 1]? = some (.cells (rc L 0 w1.heap.size) 73 (0, 0)) := by
    have := heap_alloc_new (w1.alloc (.map #[] 0)) (.cells #[.pointer (some ⟨L, 0, none⟩), .int .i32 0, .map (some w1.heap.size)] 73)
    rw [← hw2, show (w1.alloc (.map #[] 0)).heap.size = w1.heap.size + 1 by simp] at this
    exact this
  have U2 : Um w2 w1.heap.size 0 (.map []) := by
    rw [hw2]; exact (World.ownsMap_made w1 Ybaf.prog 23 (plainElem (H := Unit) Ybaf.prog 54)).alloc _
  have I2 : Im w2 M 1 DX := by
    have := I1.keep K2 id
    rw [hN 2 (.inl rfl)] at this
    exact this
  have hO2 : w2.ownsRow 0 54 1 (.slice da len dc) len (I32 Z) := own_keep hO1 K2 (fun _ _ hc => hc)
  have hi3 := R_keep hi2 K2 id
  have sz2 : w2.heap.size = w1.heap.size + 2 := by rw [hw2]; simp
  have SZ2 := hide sz2
  have bel2 : Below B0 w w2 := bel1.trans (K2.below (by have := bel1.size; omega) (fun _ hc => hc.elim))
  have hRT : ¬ T1 (w1.heap.size + 1) := fun hc => by have := hT1lt _ hc; omega
  have hUT : ¬ T1 w1.heap.size := fun hc => by have := hT1lt _ hc; omega
  have hF2 : F.answers w2.tape := by rw [bel2.tape]; exact hF
  have m9 : w2.cell? ⟨w.heap.size, 9, none⟩ = some (.int .u64 0) := cell_of hi3 9 _ rfl
  have m10 : w2.cell? ⟨w.heap.size, 10, none⟩ = some (.int .u64 mx) := cell_of hi3 10 _ rfl
  have HW2 := hide hw2
  have c9 : ((w1.alloc (.map #[] 0)).alloc (.cells #[.pointer (some ⟨L, 0, none⟩), .int .i32 0, .map (some w1.heap.size)] 73)).cell? ⟨w.heap.size, 9, none⟩ = some (.int .u64 0) := by rw [hw2] at m9; exact m9
  have c10 : ((w1.alloc (.map #[] 0)).alloc (.cells #[.pointer (some ⟨L, 0, none⟩), .int .i32 0, .map (some w1.heap.size)] 73)).cell? ⟨w.heap.size, 10, none⟩ = some (.int .u64 mx) := by rw [hw2] at m10; exact m10
  clear hw2 hO1 I1 hi2 K2 sz2 Bx bel1 hT1lt
  have hbl := bl_le mx hmx
  have hatm := atMost_any F mx (by omega) hmx T1 L (.map (some M)) 0 V1 N1 (w1.heap.size + 1) w1.heap.size 0 w2 hF2 B2 (fun i hi => by have := nb1 i hi; omega) (by omega) hRT hR2 U2 hUT (by omega)
  rw [at_val mx (N1 2) 0 (by rw [HN2.out]) (by omega) (by omega), Nat.zero_add] at hatm
  have HAT := hide hatm
  clear hatm
  go_wp2_with fail
  rw [← HW2.out]
  refine HAT.out.mono ?_
  rintro e w5 ⟨rfl, V5, N5, D5, B5, e5, b5, K5, hU5, hD5, hM5⟩
  have hO5 := own_keep hO2 K5 (fun k hk hc => by
    rcases hc with h' | h'
    · exact HDT.out k hk h'
    · have := HDL.out k hk; omega)
  have I5 := I2.keep K5 (fun hc => by rcases hc with h' | h'; exact hM1 h'; omega)
  have sz5 := K5.size
  have hsz2 := SZ2.out
  have bel5 : Below B0 w w5 := bel2.trans (K5.below (by have := bel2.size; omega) (fun k hk => by
    rcases hk with h' | h'
    · exact hTB k h'
    · have := bel2.size; omega))
  have hT5B : ∀ k, Grow T1 w2 w5 k → B0 ≤ k := fun k hk => by
    rcases hk with h' | h'
    · exact hTB k h'
    · have := bel2.size; omega
  have hlt5 : ∀ k, Grow T1 w2 w5 k → k < w5.heap.size := B5.lt
  have hDT5 : ∀ k, (Value.slice da len dc).ownBlock = some k → ¬ Grow T1 w2 w5 k := fun k hk hc => by
    rcases hc with h' | h'
    · exact HDT.out k hk h'
    · have := HDL.out k hk; omega
  have HDT5 := hide hDT5
  have hMT5 : ¬ Grow T1 w2 w5 M := fun hc => by rcases hc with h' | h'; exact hM1 h'; omega
  generalize Grow T1 w2 w5 = T5 at *
  have E5 := hide e5
  clear e5 hO2 I2 K5 hU5 hD5 hM5 hi3 hR2 U2 m9 m10 c9 c10 B2 HAT bel2 hF2 HW2 hDT5 hsz2
  go_wp2_with (at_builtin; refine wpList_append_own_at _ rfl (.tmp 138) (.tmp 145) 28 rfl 0 54 i54 (.int .i32 0) 1 4 Ybaf.underlying28 hi54 hy0 hy1 hy2 rfl (by decide) _ _ _ rfl (hO5.alloc _) ⟨w5.heap.size, 0, none⟩ 1 1 [.int .i32 (bl mx)] rfl rfl ?d1 ?d2 ?d3 ?d4 ?d5 ?_)
  case d1 => exact cell_new rfl
  case d2 => intro u hu; simp at hu; subst hu; rfl
  case d3 => unfold maxLen; omega
  case d4 => omega
  case d5 => omega
  intro v' w6 hown hgrow hne hat
  obtain ⟨g6, cp6, rfl⟩ := some_of hown hne
  have sz6 : w5.heap.size + 1 ≤ w6.heap.size := by have := hgrow.size; simp at this; omega
  have B6 := (B5.alloc (.cells #[.int .i32 (bl mx)] 54)).keep (S' := T5) (keeps_of_grown hgrow) (fun k hk => HDT5.out k hk) (fun _ hk => hk) (fun k hk => by have := hlt5 k hk; omega)
  have KA : Keeps (fun k => (Value.slice da len dc).ownBlock = some k) w5 w6 := ((Keeps.refl _ w5).alloc (.cells #[.int .i32 (bl mx)] 54)).grown hgrow (fun k hk => .inl hk)
  have I6 := I5.keep KA (fun hc => by have := HDL.out _ hc; omega)
  have hO6 : w6.ownsRow 0 54 1 (.slice (some ⟨g6, 0, none⟩) (len + 1) cp6) (len + 1) (I32 (Z ++ [(bl mx : Int)])) := by simpa using hown
  have bel6 : Below B0 w w6 := bel5.trans (KA.below (by have := bel5.size; omega) (fun k hk => HDBB.out k hk))
  clear hown hgrow hne hat
  go_wp2
  go_ret

  exact ⟨_, rfl, hO6, bel6, _, T5, _, _, B6, by rw [E5.out, HN2.out], fun i hi => by have := nb1 i hi; have := b5 i hi; omega, hT5B, .inr ⟨M, rfl, hMT5, by omega, I6⟩⟩
end Go.Proofs.YbulkboqsFmt.Rp
