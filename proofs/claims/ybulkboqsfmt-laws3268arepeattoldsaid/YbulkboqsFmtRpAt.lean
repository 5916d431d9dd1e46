import Derived.Test.YbulkboqsFmtRpEx
namespace Go.Proofs.YbulkboqsFmt.Rp
open Go.RowKit Go Go.Maps Go.Extern.Stop Go.Stop Go.Extern

theorem law23 : Keyed Ybaf.prog 23 := int_keyed Ybaf.underlying23
theorem zero54 (w : World) : (zeroValue 54).run Ybaf.prog w = .ok (.int .i32 0) w := by kernel_rfl

/-- The map of what has been made: at block U, at most n entries, reading as D. -/
def Um (w : World) (U n : Nat) (D : DataW Unit) : Prop := w.ownsMap Ybaf.prog 23 (plainElem Ybaf.prog 54) U n D

theorem Um.keep {T : Nat → Prop} {w w' : World} {U n : Nat} {D : DataW Unit} (h : Um w U n D) (hk : Keeps T w w') (hT : ¬ T U) : Um w' U n D := by
  have hlt := World.ownsMap.lt h
  obtain ⟨es, clock, hb, r⟩ := h
  exact ⟨es, clock, (hk.block U hlt hT).trans hb, r⟩

theorem grow_sub {S T : Nat → Prop} {w W w2 : World} (hT : ∀ k, T k → Grow S w W k) (h1 : w.heap.size ≤ W.heap.size) (h2 : W.heap.size ≤ w2.heap.size) : ∀ k, Grow T W w2 k → Grow S w w2 k := by
  intro k hk
  rcases hk with hk | hk
  · rcases hT k hk with h' | h'
    · exact .inl h'
    · exact .inr ⟨h'.1, by omega⟩
  · exact .inr ⟨by omega, hk.2⟩

/-- What atMost leaves. -/
def AfterU (S : Nat → Prop) (U : Nat) (w w' : World) (L : Nat) (ids : Value) (hlp : Nat) (N : Nat → Nat) (n2 d n : Nat) : Prop :=
  ∃ V' N' D', Bld w' (Grow S w w') L ids hlp V' N' ∧ N' 2 = n2 ∧ (∀ i, at5 i → N' i ≤ N i + d) ∧ Keeps (fun k => S k ∨ k = U) w w' ∧ Um w' U n D' ∧ Maps.has D' (.int .u64 1) = true ∧ IsMap D'

set_option maxHeartbeats 1000000 in
/-- The second asking for 1. -/
theorem at_hit (L R U n : Nat) (x : Int) (D : DataW Unit) (w : World) (hR : w.heap[R]? = some (.cells (rc L x U) 73 (0, 0))) (hU : Um w U n D) (hD : Maps.has D (.int .u64 1) = true) :
    Calls Ybaf.prog 18 #[.pointer (some ⟨R, 0, none⟩), .int .u64 1] w fun e w' => (∃ y : Int, e = .returned (.int .i32 y)) ∧ w' = w := by
  have k2 : w.cell? ⟨R, 2, none⟩ = some (.map (some U)) := cell_of hR 2 _ rfl
  clear hR
  go_enter Ybaf.func18, Ybaf.ntmps18
  go_wp2_with (at_lookup; refine wpList_lookup_own_ok_int _ rfl (.tmp 17) (.tmp 18) 71 rfl 23 54 .i32 law23 Ybaf.underlying71 Ybaf.underlying54 (zero54 _) U n D rfl hU _ _ rfl (keyOf_int_mk Ybaf.underlying23 (by decide)) ?_; intro c hat hwc)
  go_ret
  exact ⟨⟨_, rfl⟩, rfl⟩

theorem own_one (w : World) (a : Value) : (w.alloc (.cells #[a] 54)).ownsRow 0 54 1 (.slice (some ⟨w.heap.size, 0, none⟩) 1 1) 1 [a] :=
  World.ownsRow_lit w #[a] 1 (Nat.zero_le _) (by decide) rfl

theorem key1 : WideAt.IsKeyLit (.int .u64 1) := trivial
theorem has_nil (kl : Lit) : Maps.has (H := Unit) (.map []) kl = false := rfl

set_option maxRecDepth 20000 in
set_option maxHeartbeats 2000000 in
theorem at_base (F : Interp) (S : Nat → Prop) (L : Nat) (ids : Value) (hlp : Nat) (V : Nat → Value) (N : Nat → Nat) (R U : Nat) (x : Int) (w : World) (hF : F.answers w.tape) (h : Bld w S L ids hlp V N)
    (hN : ∀ i, at5 i → N i ≤ 50000) (hh : hlp ≤ 50000) (hSR : ¬ S R) (hR : w.heap[R]? = some (.cells (rc L x U) 73 (0, 0))) (hU : Um w U 0 (.map [])) (hSU : ¬ S U) :
    Calls Ybaf.prog 18 #[.pointer (some ⟨R, 0, none⟩), .int .u64 1] w fun e w' => e = .returned (.int .i32 (N 2)) ∧ AfterU S U w w' L ids (hlp + 1) N (N 2 + 1) 8 1 := by
  have k2 : w.cell? ⟨R, 2, none⟩ = some (.map (some U)) := cell_of hR 2 _ rfl
  have k1 : w.cell? ⟨R, 1, none⟩ = some (.int .i32 x) := cell_of hR 1 _ rfl
  have k0 : w.cell? ⟨R, 0, none⟩ = some (.pointer (some ⟨L, 0, none⟩)) := cell_of hR 0 _ rfl
  have hRw : R < w.heap.size := lt_of_block hR
  have hRw1 : R < w.heap.size + 1 := by omega
  go_enter Ybaf.func18, Ybaf.ntmps18
  go_wp2_with (at_lookup; refine wpList_lookup_own_ok_int _ rfl (.tmp 17) (.tmp 18) 71 rfl 23 54 .i32 law23 Ybaf.underlying71 Ybaf.underlying54 (zero54 _) U 0 (.map []) rfl hU _ _ rfl (keyOf_int_mk Ybaf.underlying23 (by decide)) ?_; intro c hat hwc; rw [has_nil])
  clear hat hwc
  have hOW : ((w.alloc (.cells #[.int .i32 x] 54)).alloc (.cells #[.slice (some ⟨w.heap.size, 0, none⟩) 1 1, nilS] 28)).ownsRow 0 54 1 (.slice (some ⟨w.heap.size, 0, none⟩) 1 1) 1 [.int .i32 x] := (own_one w (.int .i32 x)).alloc _
  have KW : Keeps S w ((w.alloc (.cells #[.int .i32 x] 54)).alloc (.cells #[.slice (some ⟨w.heap.size, 0, none⟩) 1 1, nilS] 28)) := ((Keeps.refl S w).alloc _).alloc _
  have hW1 : ((w.alloc (.cells #[.int .i32 x] 54)).alloc (.cells #[.slice (some ⟨w.heap.size, 0, none⟩) 1 1, nilS] 28)).heap[w.heap.size + 1]? = some (.cells #[.slice (some ⟨w.heap.size, 0, none⟩) 1 1, nilS] 28 (0, 0)) := by
    have := heap_alloc_new (w.alloc (.cells #[.int .i32 x] 54)) (.cells #[.slice (some ⟨w.heap.size, 0, none⟩) 1 1, nilS] 28)
    simpa using this
  have hRW : ((w.alloc (.cells #[.int .i32 x] 54)).alloc (.cells #[.slice (some ⟨w.heap.size, 0, none⟩) 1 1, nilS] 28)).heap[R]? = some (.cells (rc L x U) 73 (0, 0)) := R_keep hR KW hSR
  have hUW : Um ((w.alloc (.cells #[.int .i32 x] 54)).alloc (.cells #[.slice (some ⟨w.heap.size, 0, none⟩) 1 1, nilS] 28)) U 0 (.map []) := hU.keep KW hSU
  have hszW : ((w.alloc (.cells #[.int .i32 x] 54)).alloc (.cells #[.slice (some ⟨w.heap.size, 0, none⟩) 1 1, nilS] 28)).heap.size = w.heap.size + 2 := by simp
  have HSZ := hide hszW
  have hs0 : ¬ S w.heap.size := fun hc => by have := h.lt _ hc; omega
  have hs1 : ¬ S (w.heap.size + 1) := fun hc => by have := h.lt _ hc; omega
  clear hszW
  refine (hidden_any F S L ids hlp V N _ (by exact hF) ((h.alloc _).alloc _) (fun i hi => by have := hN i hi; omega) (by omega)).mono ?_
  rintro e w2 ⟨rfl, V2, N2, B2, e2, b2, K2⟩
  have hO2 := cells_keep hOW K2 hs0
  have hA2 := R_keep hW1 K2 hs1
  have hR2 := R_keep hRW K2 hSR
  have hU2 := hUW.keep K2 hSU
  have KK2 := KW.trans (K2.mono fun k hk => .inl hk)
  have hT2 := grow_sub (S := S) (w := w) (T := S) (fun k hk => .inl hk) KW.size K2.size
  have lt2 := K2.size
  rw [HSZ.out] at lt2
  have hUw : U < w.heap.size := World.ownsMap.lt hU
  have hg0 : ¬ Grow S ((w.alloc (.cells #[.int .i32 x] 54)).alloc (.cells #[.slice (some ⟨w.heap.size, 0, none⟩) 1 1, nilS] 28)) w2 w.heap.size := fun hc => by rcases hc with hc | hc; exact hs0 hc; rw [HSZ.out] at hc; omega
  have hg1 : ¬ Grow S ((w.alloc (.cells #[.int .i32 x] 54)).alloc (.cells #[.slice (some ⟨w.heap.size, 0, none⟩) 1 1, nilS] 28)) w2 (w.heap.size + 1) := fun hc => by rcases hc with hc | hc; exact hs1 hc; rw [HSZ.out] at hc; omega
  have hgR : ¬ Grow S ((w.alloc (.cells #[.int .i32 x] 54)).alloc (.cells #[.slice (some ⟨w.heap.size, 0, none⟩) 1 1, nilS] 28)) w2 R := fun hc => by rcases hc with hc | hc; exact hSR hc; rw [HSZ.out] at hc; omega
  have hgU : ¬ Grow S ((w.alloc (.cells #[.int .i32 x] 54)).alloc (.cells #[.slice (some ⟨w.heap.size, 0, none⟩) 1 1, nilS] 28)) w2 U := fun hc => by rcases hc with hc | hc; exact hSU hc; rw [HSZ.out] at hc; omega
  generalize Grow S ((w.alloc (.cells #[.int .i32 x] 54)).alloc (.cells #[.slice (some ⟨w.heap.size, 0, none⟩) 1 1, nilS] 28)) w2 = T2 at *
  have E2 := hide e2
  clear K2 hOW hW1 hRW hUW KW HSZ e2 k0 k1 k2
  have c0 : w2.cell? ⟨w.heap.size + 1, 0, none⟩ = some (.slice (some ⟨w.heap.size, 0, none⟩) 1 1) := cell_of hA2 0 _ rfl
  have kr0 : w2.cell? ⟨R, 0, none⟩ = some (.pointer (some ⟨L, 0, none⟩)) := cell_of hR2 0 _ rfl
  go_wp2
  refine wp_loop_rounds 3 ?_
  rw [rounds_succ]
  go_wp2_with fail
  refine (AddRule_some T2 L ids (hlp + 1) V2 N2 (N 2) w.heap.size 1 1 _ _ B2 (fun i hi => by have := hN i hi; have := b2 i hi; omega) (by omega) (by omega) hO2 (by intro u hu; simp at hu; subst hu; rfl) hg0).mono ?_
  rintro e w3 ⟨rfl, V3, N3, B3, e3, b3, K3⟩
  have E3 := hide e3
  clear e3
  have lt3 := K3.size
  have hA3 := R_keep hA2 K3 hg1
  have hR3 := R_keep hR2 K3 hgR
  have hU3 := hU2.keep K3 hgU
  have KK3 := KK2.trans (K3.mono hT2)
  have hT3 := grow_sub hT2 KK2.size K3.size
  have hgU3 : ¬ Grow T2 w2 w3 U := fun hc => by rcases hc with hc | hc; exact hgU hc; omega
  have hgR3 : ¬ Grow T2 w2 w3 R := fun hc => by rcases hc with hc | hc; exact hgR hc; omega
  generalize Grow T2 w2 w3 = T3 at *
  clear K3 hO2 hA2 hR2 hU2 B2 c0 kr0 hT2
  have c1 : w3.cell? ⟨w.heap.size + 1, 1, none⟩ = some (.slice none 0 0) := cell_of hA3 1 _ rfl
  have kr1 : w3.cell? ⟨R, 0, none⟩ = some (.pointer (some ⟨L, 0, none⟩)) := cell_of hR3 0 _ rfl
  go_wp2_with fail
  rw [rounds_succ]
  go_wp2_with fail
  refine (AddRule_nil T3 L ids (hlp + 1) V3 N3 (N 2) _ B3 (fun i hi => by have := hN i hi; have := b2 i hi; have := b3 i hi; omega)).mono ?_
  rintro e w4 ⟨rfl, V4, N4, B4, e4, b4, K4⟩
  have E4 := hide e4
  clear e4
  have lt4 := K4.size
  have hR4 := R_keep hR3 K4 hgR3
  have hU4 := hU3.keep K4 hgU3
  have KK4 := KK3.trans (K4.mono hT3)
  have hT4 := grow_sub hT3 KK3.size K4.size
  have hgU4 : ¬ Grow T3 w3 w4 U := fun hc => by rcases hc with hc | hc; exact hgU3 hc; omega
  generalize Grow T3 w3 w4 = T4 at *
  clear K4 hA3 hR3 hU3 B3 c1 kr1 hT3
  have kr2 : w4.cell? ⟨R, 2, none⟩ = some (.map (some U)) := cell_of hR4 2 _ rfl
  have hn2 := hN 2 (.inl rfl)
  go_wp2_with fail
  rw [rounds_succ]
  go_wp2_with (at_mapUpdate; refine wpList_mapUpdate_own _ rfl _ _ _ 71 rfl 23 54 law23 Ybaf.underlying71 _ U 0 _ rfl hU4 (by decide) _ _ _ rfl rfl (keyOf_int_mk Ybaf.underlying23 (by decide)) _ [] (plainElem_int Ybaf.underlying54 (WalkArith.wf_i32 (by omega))) ?_; intro w5 hU5 hgr5)
  go_ret
  refine ⟨rfl, V4, N4, _, B4.keep (keeps_of_grown hgr5) (fun k hk => by simp at hk; subst hk; exact hgU4) (fun k hk => ?_) (fun k hk => ?_), by rw [E4.out, E3.out, E2.out], fun i hi => by have := b2 i hi; have := b3 i hi; have := b4 i hi; omega, ?_, hU5, ?_, ?_⟩
  · rcases hT4 k hk with h' | h'
    · exact .inl h'
    · exact .inr ⟨h'.1, by have := hgr5.size; omega⟩
  · rcases hk with hk | hk
    · have := h.lt k hk; have := KK4.size; have := hgr5.size; omega
    · exact hk.2
  · exact (KK4.mono (S' := fun k => S k ∨ k = U) fun k hk => .inl hk).grown hgr5 (fun k hk => by simp at hk; exact .inl (.inr hk.symm))
  · exact has_put_same isMap_empty key1 _
  · exact isMap_empty.put _ _

theorem grow_wide {S : Nat → Prop} {U : Nat} {w w1 W : World} (_h1 : w.heap.size ≤ w1.heap.size) (h2 : w1.heap.size ≤ W.heap.size) : ∀ k, Grow S w w1 k → Grow (fun k => S k ∨ k = U) w W k := by
  intro k hk
  rcases hk with hk | hk
  · exact .inl (.inl hk)
  · exact .inr ⟨hk.1, by omega⟩
theorem grow_wide' {S : Nat → Prop} {w w1 W : World} (h2 : w1.heap.size ≤ W.heap.size) : ∀ k, Grow S w w1 k → Grow S w W k := by
  intro k hk
  rcases hk with hk | hk
  · exact .inl hk
  · exact .inr ⟨hk.1, by omega⟩
theorem own_slot (w : World) (v : Value) : (w.alloc (.cells #[v] 28)).heap[w.heap.size]? = some (.cells #[v] 28 (0, 0)) := heap_alloc_new w _

/-- How many bits. -/
def bl (n : Nat) : Nat := Lib.bitLen n
theorem bl_one : bl 1 = 1 := by decide +kernel
theorem bl_half (n : Nat) (h2 : 1 ≤ n) (h : n < 18446744073709551616) : bl n = bl (n / 2) + 1 := by
  unfold bl
  rw [Lib.bitLen_half n (by omega) h]
  omega
theorem bl_le (n : Nat) (h : n < 18446744073709551616) : bl n ≤ 64 := Lib.bitLen_le n 64 (by omega) h
theorem bl_lg (n : Nat) (h1 : 1 ≤ n) (h : n < 18446744073709551616) : bl n = lg n + 1 := by
  unfold bl lg
  rw [Lib.bitLen_half n (by omega) h]
  omega

set_option maxRecDepth 20000 in
set_option maxHeartbeats 2000000 in
theorem at_even (F : Interp) (k : Nat) (h2 : 2 ≤ k) (hk : k < 18446744073709551616) (hev : k % 2 = 0) (S : Nat → Prop) (L : Nat) (ids : Value) (hlp : Nat) (V : Nat → Value) (N : Nat → Nat) (R U : Nat) (x : Int) (w : World) (hF : F.answers w.tape) (h : Bld w S L ids hlp V N)
    (hN : ∀ i, at5 i → N i + 8 * bl k ≤ 50000) (hh : hlp + bl k ≤ 50000) (hSR : ¬ S R) (hR : w.heap[R]? = some (.cells (rc L x U) 73 (0, 0))) (hU : Um w U 0 (.map [])) (hSU : ¬ S U) (hRU : R ≠ U)
    (ih : Calls Ybaf.prog 18 #[.pointer (some ⟨R, 0, none⟩), .int .u64 (k / 2 : Nat)] w fun e w' => ∃ y : Int, e = .returned (.int .i32 y) ∧ AfterU S U w w' L ids (hlp + bl (k / 2)) N (N 2 + bl (k / 2)) (8 * bl (k / 2)) (bl (k / 2))) :
    Calls Ybaf.prog 18 #[.pointer (some ⟨R, 0, none⟩), .int .u64 k] w fun e w' => e = .returned (.int .i32 (N 2 + bl k - 1 : Nat)) ∧ AfterU S U w w' L ids (hlp + bl k) N (N 2 + bl k) (8 * bl k) (bl k) := by
  have IH := hide ih
  have HB := hide (bl_half k (by omega) hk)
  have HLE := bl_le k hk
  have wfk : (Lit.int .u64 (k : Int)).wf = true := WalkArith.wf_u64 (by omega)
  have WK := hide wfk
  have k2 : w.cell? ⟨R, 2, none⟩ = some (.map (some U)) := cell_of hR 2 _ rfl
  have hRw : R < w.heap.size := lt_of_block hR
  clear ih wfk
  go_enter Ybaf.func18, Ybaf.ntmps18
  go_wp2_with (at_lookup; refine wpList_lookup_own_ok_int _ rfl (.tmp 17) (.tmp 18) 71 rfl 23 54 .i32 law23 Ybaf.underlying71 Ybaf.underlying54 (zero54 _) U 0 (.map []) rfl hU _ _ rfl (keyOf_int_mk Ybaf.underlying23 WK.out) ?_; intro c hat hwc; rw [has_nil])
  clear hat hwc k2
  rw [show ((k : Int) / 2) = ((k / 2 : Nat) : Int) from by omega]
  refine IH.out.mono ?_
  rintro e w1 ⟨y, rfl, V1, N1, D1, B1, e1, b1, K1, hU1, hD1, hM1⟩
  have E1 := hide e1
  have HD1 := hide hD1
  clear e1 IH hD1
  have hRw : R < w.heap.size := lt_of_block hR
  have hUw : U < w.heap.size := World.ownsMap.lt hU
  have hR1 := R_keep hR K1 (fun hc => by rcases hc with hc | hc; exact hSR hc; exact hRU hc)
  have lt1 := K1.size
  have hRS : ¬ Grow S w w1 R := fun hc => by rcases hc with hc | hc; exact hSR hc; omega
  have hUS : ¬ Grow S w w1 U := fun hc => by rcases hc with hc | hc; exact hSU hc; omega
  have nb1 : ∀ i, at5 i → N1 i ≤ 50000 := fun i hi => by have := b1 i hi; have := hN i hi; have := HB.out; omega
  have nb2 : hlp + bl (k / 2) + 1 ≤ 50000 := by have := HB.out; omega
  have HM : Hid (bl (k / 2) < maxLen) := by have := HB.out; unfold Hid maxLen; omega
  obtain ⟨wW, hw⟩ : ∃ wW, wW = (w1.alloc (.cells #[.int .i32 y, .int .i32 y] 54)).alloc (.cells #[.slice (some ⟨w1.heap.size, 0, none⟩) 2 2] 28) := ⟨_, rfl⟩
  have hOW : wW.ownsRow 0 54 1 (.slice (some ⟨w1.heap.size, 0, none⟩) 2 2) 2 [.int .i32 y, .int .i32 y] := by rw [hw]; exact (own_two w1 _ _).alloc _
  have hAW : wW.heap[w1.heap.size + 1]? = some (.cells #[.slice (some ⟨w1.heap.size, 0, none⟩) 2 2] 28 (0, 0)) := by
    rw [hw]
    simpa using own_slot (w1.alloc (.cells #[.int .i32 y, .int .i32 y] 54)) (.slice (some ⟨w1.heap.size, 0, none⟩) 2 2)
  have KW : Keeps (fun k => S k ∨ k = U) w wW := by rw [hw]; exact (K1.alloc _).alloc _
  have BW : Bld wW (Grow S w w1) L ids (hlp + bl (k / 2)) V1 N1 := by rw [hw]; exact (B1.alloc _).alloc _
  have KN : Keeps (fun _ => False) w1 wW := by rw [hw]; exact ((Keeps.refl _ _).alloc _).alloc _
  have hRW := R_keep hR1 KN id
  have hUW := hU1.keep KN id
  have hszW : w1.heap.size ≤ wW.heap.size := KN.size
  have hszW2 : w1.heap.size + 2 ≤ wW.heap.size := by rw [hw]; simp
  have hFW : F.answers wW.tape := by rw [KW.tape]; exact hF
  have hgS : ¬ Grow S w w1 w1.heap.size := fun hc => by have := B1.lt _ hc; omega
  have hg1S : ¬ Grow S w w1 (w1.heap.size + 1) := fun hc => by have := B1.lt _ hc; omega
  have hys : ∀ u ∈ [Value.int .i32 y, .int .i32 y], u.oneCell' = true := by intro u hu; simp at hu; subst hu; rfl
  have kW : wW.cell? ⟨R, 0, none⟩ = some (.pointer (some ⟨L, 0, none⟩)) := cell_of hRW 0 _ rfl
  have HW := hide hw
  clear hR1 hU1 KN
  have k1 : ((w1.alloc (.cells #[.int .i32 y, .int .i32 y] 54)).alloc (.cells #[.slice (some ⟨w1.heap.size, 0, none⟩) 2 2] 28)).cell? ⟨R, 0, none⟩ = some (.pointer (some ⟨L, 0, none⟩)) := by rw [← hw]; exact kW
  clear hw
  go_wp2_with fail
  rw [← HW.out]
  clear k1
  refine (hidden_any F (Grow S w w1) L ids (hlp + bl (k / 2)) V1 N1 _ (by exact hFW) BW (fun i hi => by have := nb1 i hi; omega) (by omega)).mono ?_
  rintro e w2 ⟨rfl, V2, N2, B2, e2, b2, K2⟩
  have E2 := hide e2
  have hO2 := cells_keep hOW K2 hgS
  have hA2 := R_keep hAW K2 hg1S
  have hR2 := R_keep hRW K2 hRS
  have hU2 := hUW.keep K2 hUS
  have KK2 := KW.trans (K2.mono (grow_wide K1.size hszW))
  have hT2 := grow_sub (S := S) (w := w) (T := Grow S w w1) (grow_wide' hszW) KW.size K2.size
  have lt2 := K2.size
  have hg0 : ¬ Grow (Grow S w w1) wW w2 w1.heap.size := fun hc => by rcases hc with hc | hc; exact hgS hc; omega
  have hgR : ¬ Grow (Grow S w w1) wW w2 R := fun hc => by rcases hc with hc | hc; exact hRS hc; omega
  have hgU : ¬ Grow (Grow S w w1) wW w2 U := fun hc => by rcases hc with hc | hc; exact hUS hc; omega
  generalize Grow (Grow S w w1) wW w2 = T2 at *
  clear K2 hOW hAW hRW hUW KW e2 BW kW
  have c0 : w2.cell? ⟨w1.heap.size + 1, 0, none⟩ = some (.slice (some ⟨w1.heap.size, 0, none⟩) 2 2) := cell_of hA2 0 _ rfl
  have kr0 : w2.cell? ⟨R, 0, none⟩ = some (.pointer (some ⟨L, 0, none⟩)) := cell_of hR2 0 _ rfl
  go_wp2
  refine wp_loop_rounds 2 ?_
  rw [rounds_succ]
  go_wp2_with fail
  refine (AddRule_some T2 L ids (hlp + bl (k / 2) + 1) V2 N2 (N1 2) w1.heap.size 2 2 _ _ B2 (fun i hi => by have := nb1 i hi; have := b2 i hi; omega) (by omega) (by omega) hO2 hys hg0).mono ?_
  rintro e w3 ⟨rfl, V3, N3, B3, e3, b3, K3⟩
  have E3 := hide e3
  clear e3
  have lt3 := K3.size
  have hR3 := R_keep hR2 K3 hgR
  have hU3 := hU2.keep K3 hgU
  have KK3 := KK2.trans (K3.mono fun k hk => by rcases hT2 k hk with h' | h'; exact .inl (.inl h'); exact .inr h')
  have hT3 := grow_sub hT2 (Nat.le_trans KK2.size (Nat.le_refl _)) K3.size
  have hgU3 : ¬ Grow T2 w2 w3 U := fun hc => by rcases hc with hc | hc; exact hgU hc; omega
  generalize Grow T2 w2 w3 = T3 at *
  clear K3 hO2 hA2 hR2 hU2 B2 c0 kr0 hT2
  have kr2 : w3.cell? ⟨R, 2, none⟩ = some (.map (some U)) := cell_of hR3 2 _ rfl
  have hn2 : N1 2 ≤ 50000 := nb1 2 (.inl rfl)
  go_wp2_with fail
  rw [rounds_succ]
  go_wp2_with (at_mapUpdate; refine wpList_mapUpdate_own _ rfl _ _ _ 71 rfl 23 54 law23 Ybaf.underlying71 _ U (bl (k / 2)) _ rfl hU3 HM.out _ _ _ rfl rfl (keyOf_int_mk Ybaf.underlying23 WK.out) _ [] (plainElem_int Ybaf.underlying54 (WalkArith.wf_i32 (by omega))) ?_; intro w5 hU5 hgr5)
  go_ret
  have e1 := E1.out
  have hb := HB.out
  have BF : Bld w5 (Grow S w w5) L ids (hlp + bl (k / 2) + 1) V3 N3 := B3.keep (keeps_of_grown hgr5) (fun k hk => by simp at hk; subst hk; exact hgU3) (fun k hk => by
      rcases hT3 k hk with h' | h'
      · exact .inl h'
      · exact .inr ⟨h'.1, by have := hgr5.size; omega⟩) (fun k hk => by
      rcases hk with hk | hk
      · have := h.lt k hk; have := KK3.size; have := hgr5.size; omega
      · exact hk.2)
  rw [hb]
  refine ⟨ret_i32 (by rw [e1]; omega), V3, N3, _, BF, by rw [E3.out, E2.out, e1]; rfl, fun i hi => by have := b1 i hi; have := b2 i hi; have := b3 i hi; omega, ?_, hU5, ?_, hM1.put _ _⟩
  · exact KK3.grown hgr5 (fun k hk => by simp at hk; exact .inl (.inr hk.symm))
  · rw [has_put_other (by intro e; simp at e; omega)]; exact HD1.out

set_option maxRecDepth 20000 in
set_option maxHeartbeats 2000000 in
theorem at_odd (F : Interp) (k : Nat) (h2 : 2 ≤ k) (hk : k < 18446744073709551616) (hod : k % 2 = 1) (S : Nat → Prop) (L : Nat) (ids : Value) (hlp : Nat) (V : Nat → Value) (N : Nat → Nat) (R U : Nat) (x : Int) (w : World) (hF : F.answers w.tape) (h : Bld w S L ids hlp V N)
    (hN : ∀ i, at5 i → N i + 8 * bl k ≤ 50000) (hh : hlp + bl k ≤ 50000) (hSR : ¬ S R) (hR : w.heap[R]? = some (.cells (rc L x U) 73 (0, 0))) (hU : Um w U 0 (.map [])) (hSU : ¬ S U) (hRU : R ≠ U)
    (ih : Calls Ybaf.prog 18 #[.pointer (some ⟨R, 0, none⟩), .int .u64 (k / 2 : Nat)] w fun e w' => ∃ y : Int, e = .returned (.int .i32 y) ∧ AfterU S U w w' L ids (hlp + bl (k / 2)) N (N 2 + bl (k / 2)) (8 * bl (k / 2)) (bl (k / 2))) :
    Calls Ybaf.prog 18 #[.pointer (some ⟨R, 0, none⟩), .int .u64 k] w fun e w' => e = .returned (.int .i32 (N 2 + bl k - 1 : Nat)) ∧ AfterU S U w w' L ids (hlp + bl k) N (N 2 + bl k) (8 * bl k) (bl k) := by
  have IH := hide ih
  have HB := hide (bl_half k (by omega) hk)
  have HLE := bl_le k hk
  have wfk : (Lit.int .u64 (k : Int)).wf = true := WalkArith.wf_u64 (by omega)
  have WK := hide wfk
  have k2 : w.cell? ⟨R, 2, none⟩ = some (.map (some U)) := cell_of hR 2 _ rfl
  have hRw : R < w.heap.size := lt_of_block hR
  clear ih wfk
  go_enter Ybaf.func18, Ybaf.ntmps18
  go_wp2_with (at_lookup; refine wpList_lookup_own_ok_int _ rfl (.tmp 17) (.tmp 18) 71 rfl 23 54 .i32 law23 Ybaf.underlying71 Ybaf.underlying54 (zero54 _) U 0 (.map []) rfl hU _ _ rfl (keyOf_int_mk Ybaf.underlying23 WK.out) ?_; intro c hat hwc; rw [has_nil])
  clear hat hwc k2
  rw [show ((k : Int) / 2) = ((k / 2 : Nat) : Int) from by omega]
  refine IH.out.mono ?_
  rintro e w1 ⟨y, rfl, V1, N1, D1, B1, e1, b1, K1, hU1, hD1, hM1⟩
  have E1 := hide e1
  have HD1 := hide hD1
  clear e1 IH hD1
  have hRw : R < w.heap.size := lt_of_block hR
  have hUw : U < w.heap.size := World.ownsMap.lt hU
  have hR1 := R_keep hR K1 (fun hc => by rcases hc with hc | hc; exact hSR hc; exact hRU hc)
  have lt1 := K1.size
  have hRS : ¬ Grow S w w1 R := fun hc => by rcases hc with hc | hc; exact hSR hc; omega
  have hUS : ¬ Grow S w w1 U := fun hc => by rcases hc with hc | hc; exact hSU hc; omega
  have nb1 : ∀ i, at5 i → N1 i ≤ 50000 := fun i hi => by have := b1 i hi; have := hN i hi; have := HB.out; omega
  have nb2 : hlp + bl (k / 2) + 1 ≤ 50000 := by have := HB.out; omega
  have HM : Hid (bl (k / 2) < maxLen) := by have := HB.out; unfold Hid maxLen; omega
  have KN0 : Keeps (fun _ => False) w1 (w1.alloc (.cells #[.int .i32 y, .int .i32 y] 54)) := (Keeps.refl _ _).alloc _
  have hR0 := R_keep hR1 KN0 id
  have hU0 := hU1.keep KN0 id
  have hO0 := own_two w1 (.int .i32 y) (.int .i32 y)
  clear hR1 hU1 KN0
  obtain ⟨i54, hi54, hy0, hy1, hy2⟩ := info_parts Ybaf.info54
  go_wp2_with fail
  refine (at_hit L R U (bl (k / 2)) x D1 _ hR0 hU0 HD1.out).mono ?_
  rintro e w0 ⟨⟨y1, rfl⟩, rfl⟩
  go_wp2_with (at_builtin; refine wpList_append_own_at _ rfl (.tmp 42) (.tmp 45) 28 rfl 0 54 i54 (.int .i32 0) 1 4 Ybaf.underlying28 hi54 hy0 hy1 hy2 rfl (by decide) _ _ _ rfl (hO0.alloc _) ⟨w1.heap.size + 1, 0, none⟩ 1 1 [.int .i32 y1] rfl rfl ?c1 ?c2 ?c3 ?c4 ?c5 ?_)
  case c1 => exact cell_new (by simp)
  case c2 => intro u hu; simp at hu; subst hu; rfl
  case c3 => decide
  case c4 => decide
  case c5 => omega
  intro v' wA hown hgrow hne hat
  obtain ⟨g, cp, rfl⟩ := some_of hown hne
  have hgS0 : ¬ Grow S w w1 w1.heap.size := fun hc => by have := B1.lt _ hc; omega
  have KA := (((K1.alloc (.cells #[.int .i32 y, .int .i32 y] 54)).alloc (.cells #[.int .i32 y1] 54)).grown hgrow (fun k hk => .inr (by simp [Value.ownBlock] at hk; omega)))
  have BA := ((B1.alloc (.cells #[.int .i32 y, .int .i32 y] 54)).alloc (.cells #[.int .i32 y1] 54)).keep (S' := Grow S w w1) (keeps_of_grown hgrow) (fun k hk => by simp [Value.ownBlock] at hk; subst hk; exact hgS0) (fun _ hk => hk) (fun k hk => by have := B1.lt k hk; have := hgrow.size; simp at this; omega)
  have hszA : w1.heap.size + 2 ≤ wA.heap.size := by have := hgrow.size; simp at this; omega
  have hRA : wA.heap[R]? = some (.cells (rc L x U) 73 (0, 0)) := (hgrow.block R (by simp; omega) (by simp [Value.ownBlock]; omega)).trans ((Below.heap_alloc _ _ _ (by simp; omega)).trans hR0)
  have hUA : Um wA U (bl (k / 2)) D1 := (hU0.keep (T := fun _ => False) ((Keeps.refl _ _).alloc (.cells #[.int .i32 y1] 54)) id).keep (keeps_of_grown hgrow) (by simp [Value.ownBlock]; omega)
  have hgg : w1.heap.size ≤ g := by rcases hat with hat | hat <;> simp [Value.ownBlock] at hat <;> omega
  have hglt : g < wA.heap.size := (hown.lt g rfl).2
  clear hat hne hgrow hO0 hR0 hU0
  obtain ⟨wW, hw⟩ : ∃ wW, wW = wA.alloc (.cells #[.slice (some ⟨g, 0, none⟩) 3 cp] 28) := ⟨_, rfl⟩
  have hOW : wW.ownsRow 0 54 1 (.slice (some ⟨g, 0, none⟩) 3 cp) 3 [.int .i32 y, .int .i32 y, .int .i32 y1] := by rw [hw]; exact hown.alloc _
  have hAW : wW.heap[wA.heap.size]? = some (.cells #[.slice (some ⟨g, 0, none⟩) 3 cp] 28 (0, 0)) := by rw [hw]; exact own_slot _ _
  have KW : Keeps (fun k => S k ∨ k = U) w wW := by rw [hw]; exact KA.alloc _
  have BW : Bld wW (Grow S w w1) L ids (hlp + bl (k / 2)) V1 N1 := by rw [hw]; exact BA.alloc _
  have KN : Keeps (fun _ => False) wA wW := by rw [hw]; exact (Keeps.refl _ _).alloc _
  have hRW := R_keep hRA KN id
  have hUW := hUA.keep KN id
  have hszW : w1.heap.size ≤ wW.heap.size := by have := KN.size; omega
  have hszW2 : wA.heap.size + 1 ≤ wW.heap.size := by rw [hw]; simp
  have hFW : F.answers wW.tape := by rw [KW.tape]; exact hF
  have hgS : ¬ Grow S w w1 g := fun hc => by have := B1.lt _ hc; omega
  have hg1S : ¬ Grow S w w1 wA.heap.size := fun hc => by have := B1.lt _ hc; omega
  have hys : ∀ u ∈ [Value.int .i32 y, .int .i32 y, .int .i32 y1], u.oneCell' = true := by intro u hu; simp at hu; rcases hu with rfl | rfl <;> rfl
  have kW : wW.cell? ⟨R, 0, none⟩ = some (.pointer (some ⟨L, 0, none⟩)) := cell_of hRW 0 _ rfl
  have HW := hide hw
  clear hRA hUA KN hown KA BA hgS0
  have k1 : (wA.alloc (.cells #[.slice (some ⟨g, 0, none⟩) 3 cp] 28)).cell? ⟨R, 0, none⟩ = some (.pointer (some ⟨L, 0, none⟩)) := by rw [← hw]; exact kW
  clear hw
  go_wp2_with fail
  rw [← HW.out]
  clear k1
  refine (hidden_any F (Grow S w w1) L ids (hlp + bl (k / 2)) V1 N1 _ (by exact hFW) BW (fun i hi => by have := nb1 i hi; omega) (by omega)).mono ?_
  rintro e w2 ⟨rfl, V2, N2, B2, e2, b2, K2⟩
  have E2 := hide e2
  have hO2 := cells_keep hOW K2 hgS
  have hA2 := R_keep hAW K2 hg1S
  have hR2 := R_keep hRW K2 hRS
  have hU2 := hUW.keep K2 hUS
  have KK2 := KW.trans (K2.mono (grow_wide K1.size hszW))
  have hT2 := grow_sub (S := S) (w := w) (T := Grow S w w1) (grow_wide' hszW) KW.size K2.size
  have lt2 := K2.size
  have hg0 : ¬ Grow (Grow S w w1) wW w2 g := fun hc => by rcases hc with hc | hc; exact hgS hc; omega
  have hgR : ¬ Grow (Grow S w w1) wW w2 R := fun hc => by rcases hc with hc | hc; exact hRS hc; omega
  have hgU : ¬ Grow (Grow S w w1) wW w2 U := fun hc => by rcases hc with hc | hc; exact hUS hc; omega
  generalize Grow (Grow S w w1) wW w2 = T2 at *
  clear K2 hOW hAW hRW hUW KW e2 BW kW
  have c0 : w2.cell? ⟨wA.heap.size, 0, none⟩ = some (.slice (some ⟨g, 0, none⟩) 3 cp) := cell_of hA2 0 _ rfl
  have kr0 : w2.cell? ⟨R, 0, none⟩ = some (.pointer (some ⟨L, 0, none⟩)) := cell_of hR2 0 _ rfl
  go_wp2
  refine wp_loop_rounds 2 ?_
  rw [rounds_succ]
  go_wp2_with fail
  refine (AddRule_some T2 L ids (hlp + bl (k / 2) + 1) V2 N2 (N1 2) g cp 3 _ _ B2 (fun i hi => by have := nb1 i hi; have := b2 i hi; omega) (by omega) (by omega) hO2 hys hg0).mono ?_
  rintro e w3 ⟨rfl, V3, N3, B3, e3, b3, K3⟩
  have E3 := hide e3
  clear e3
  have lt3 := K3.size
  have hR3 := R_keep hR2 K3 hgR
  have hU3 := hU2.keep K3 hgU
  have KK3 := KK2.trans (K3.mono fun k hk => by rcases hT2 k hk with h' | h'; exact .inl (.inl h'); exact .inr h')
  have hT3 := grow_sub hT2 (Nat.le_trans KK2.size (Nat.le_refl _)) K3.size
  have hgU3 : ¬ Grow T2 w2 w3 U := fun hc => by rcases hc with hc | hc; exact hgU hc; omega
  generalize Grow T2 w2 w3 = T3 at *
  clear K3 hO2 hA2 hR2 hU2 B2 c0 kr0 hT2
  have kr2 : w3.cell? ⟨R, 2, none⟩ = some (.map (some U)) := cell_of hR3 2 _ rfl
  have hn2 : N1 2 ≤ 50000 := nb1 2 (.inl rfl)
  go_wp2_with fail
  rw [rounds_succ]
  go_wp2_with (at_mapUpdate; refine wpList_mapUpdate_own _ rfl _ _ _ 71 rfl 23 54 law23 Ybaf.underlying71 _ U (bl (k / 2)) _ rfl hU3 HM.out _ _ _ rfl rfl (keyOf_int_mk Ybaf.underlying23 WK.out) _ [] (plainElem_int Ybaf.underlying54 (WalkArith.wf_i32 (by omega))) ?_; intro w5 hU5 hgr5)
  go_ret
  have e1 := E1.out
  have hb := HB.out
  have BF : Bld w5 (Grow S w w5) L ids (hlp + bl (k / 2) + 1) V3 N3 := B3.keep (keeps_of_grown hgr5) (fun k hk => by simp at hk; subst hk; exact hgU3) (fun k hk => by
      rcases hT3 k hk with h' | h'
      · exact .inl h'
      · exact .inr ⟨h'.1, by have := hgr5.size; omega⟩) (fun k hk => by
      rcases hk with hk | hk
      · have := h.lt k hk; have := KK3.size; have := hgr5.size; omega
      · exact hk.2)
  rw [hb]
  refine ⟨ret_i32 (by rw [e1]; omega), V3, N3, _, BF, by rw [E3.out, E2.out, e1]; rfl, fun i hi => by have := b1 i hi; have := b2 i hi; have := b3 i hi; omega, ?_, hU5, ?_, hM1.put _ _⟩
  · exact KK3.grown hgr5 (fun k hk => by simp at hk; exact .inl (.inr hk.symm))
  · rw [has_put_other (by intro e; simp at e; omega)]; exact HD1.out

theorem atMost_any (F : Interp) : ∀ k : Nat, 1 ≤ k → k < 18446744073709551616 → ∀ (S : Nat → Prop) (L : Nat) (ids : Value) (hlp : Nat) (V : Nat → Value) (N : Nat → Nat) (R U : Nat) (x : Int) (w : World), F.answers w.tape → Bld w S L ids hlp V N →
    (∀ i, at5 i → N i + 8 * bl k ≤ 50000) → hlp + bl k ≤ 50000 → ¬ S R → w.heap[R]? = some (.cells (rc L x U) 73 (0, 0)) → Um w U 0 (.map []) → ¬ S U → R ≠ U →
    Calls Ybaf.prog 18 #[.pointer (some ⟨R, 0, none⟩), .int .u64 k] w fun e w' => e = .returned (.int .i32 (N 2 + bl k - 1 : Nat)) ∧ AfterU S U w w' L ids (hlp + bl k) N (N 2 + bl k) (8 * bl k) (bl k) := by
  intro k
  induction k using Nat.strongRecOn with
  | ind k ih =>
    intro h1 hk S L ids hlp V N R U x w hF h hN hh hSR hR hU hSU hRU
    by_cases hone : k = 1
    · subst hone
      rw [bl_one] at hN hh ⊢
      exact at_base F S L ids hlp V N R U x w hF h (fun i hi => by have := hN i hi; omega) (by omega) hSR hR hU hSU
    · have hl := bl_half k (by omega) hk
      have IH := ih (k / 2) (by omega) (by omega) (by omega) S L ids hlp V N R U x w hF h (fun i hi => by have := hN i hi; omega) (by omega) hSR hR hU hSU hRU
      have IH' := IH.mono (R' := fun e w' => ∃ y : Int, e = .returned (.int .i32 y) ∧ AfterU S U w w' L ids (hlp + bl (k / 2)) N (N 2 + bl (k / 2)) (8 * bl (k / 2)) (bl (k / 2))) (fun e w' hx => ⟨_, hx.1, hx.2⟩)
      by_cases hev : k % 2 = 0
      · exact at_even F k (by omega) hk hev S L ids hlp V N R U x w hF h hN hh hSR hR hU hSU hRU IH'
      · exact at_odd F k (by omega) hk (by omega) S L ids hlp V N R U x w hF h hN hh hSR hR hU hSU hRU IH'
end Go.Proofs.YbulkboqsFmt.Rp
