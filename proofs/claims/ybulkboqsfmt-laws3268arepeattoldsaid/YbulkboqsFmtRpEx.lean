import Derived.Test.YbulkboqsFmtRpHid
import Derived.Lib.BitFns
namespace Go.Proofs.YbulkboqsFmt.Rp
open Go.RowKit Go Go.Maps Go.Extern.Stop Go.Stop Go.Extern

theorem hide {p : Prop} (h : p) : Hid p := h

/-- How often n is halved till 1 is left. -/
def lg (n : Nat) : Nat := Lib.bitLen n - 1
theorem lg_one : lg 1 = 0 := by decide +kernel
theorem lg_half (n : Nat) (h2 : 2 ≤ n) (h : n < 18446744073709551616) : lg n = lg (n / 2) + 1 := by
  unfold lg
  rw [Lib.bitLen_half n (by omega) h, Lib.bitLen_half (n / 2) (by omega) (by omega)]
  omega
theorem lg_le (n : Nat) (h : n < 18446744073709551616) : lg n ≤ 63 := by
  have := Lib.bitLen_le n 64 (by omega) h
  unfold lg
  omega

/-- What is known of a step is known from an earlier start. -/
theorem After.comp {S T : Nat → Prop} {w W w2 : World} {L : Nat} {ids : Value} {hlp : Nat} {N N1 : Nat → Nat} {n2 d0 d1 : Nat} (hS : ∀ k, S k → k < w.heap.size) (hK : Keeps S w W) (hT : ∀ k, T k → Grow S w W k) (h : After T W w2 L ids hlp N1 n2 d1) (hb : ∀ i, at5 i → N1 i ≤ N i + d0) : After S w w2 L ids hlp N n2 (d0 + d1) := by
  obtain ⟨V', N', B, e, b, K⟩ := h
  have hsz := hK.size
  have hsz2 := K.size
  refine ⟨V', N', B.wide (fun k hk => ?_) (fun k hk => ?_), e, fun i hi => ?_, hK.trans (K.mono hT)⟩
  · rcases hk with hk | hk
    · rcases hT k hk with h' | h'
      · exact .inl h'
      · exact .inr ⟨h'.1, by omega⟩
    · exact .inr ⟨by omega, hk.2⟩
  · rcases hk with hk | hk
    · have := hS k hk; omega
    · exact hk.2
  · have := b i hi; have := hb i hi; omega

/-- The repeater's cells. -/
def rc (L : Nat) (x : Int) (U : Nat) : Array Value := #[.pointer (some ⟨L, 0, none⟩), .int .i32 x, .map (some U)]

theorem ex_one (L R U : Nat) (x : Int) (w : World) (hR : w.heap[R]? = some (.cells (rc L x U) 73 (0, 0))) :
    Calls Ybaf.prog 17 #[.pointer (some ⟨R, 0, none⟩), .int .u64 1] w fun e w' => e = .returned (.int .i32 x) ∧ w' = w := by
  have k1 : w.cell? ⟨R, 1, none⟩ = some (.int .i32 x) := cell_of hR 1 _ rfl
  clear hR
  go_enter Ybaf.func17, Ybaf.ntmps17
  go_wp2
  go_ret
  exact ⟨rfl, rfl⟩

/-- Two cells in a new block. -/
theorem own_two (w : World) (a b : Value) : (w.alloc (.cells #[a, b] 54)).ownsRow 0 54 1 (.slice (some ⟨w.heap.size, 0, none⟩) 2 2) 2 [a, b] :=
  World.ownsRow_lit w #[a, b] 2 (Nat.zero_le _) (by decide) rfl

theorem R_keep {S : Nat → Prop} {w w' : World} {R : Nat} {o : Obj} (h : w.heap[R]? = some o) (hk : Keeps S w w') (hR : ¬ S R) : w'.heap[R]? = some o := (hk.block R (lt_of_block h) hR).trans h

theorem keeps_two {S : Nat → Prop} {w w1 W w2 : World} (K1 : Keeps S w w1) (KW : Keeps S w W) (hW : w1.heap.size ≤ W.heap.size) (K2 : Keeps (Grow S w w1) W w2) : Keeps S w w2 ∧ ∀ k, Grow (Grow S w w1) W w2 k → Grow S w w2 k := by
  have h1 := K1.size
  have h2 := K2.size
  refine ⟨KW.trans (K2.mono fun k hk => ?_), fun k hk => ?_⟩
  · rcases hk with hk | hk
    · exact .inl hk
    · exact .inr ⟨hk.1, by omega⟩
  · rcases hk with (hk | hk) | hk
    · exact .inl hk
    · exact .inr ⟨hk.1, by omega⟩
    · exact .inr ⟨by omega, hk.2⟩
theorem keeps_of_grown {w w' : World} {row : Option Nat} (hg : w.grownBy w' row) : Keeps (fun k => row = some k) w w' := ⟨hg.os, hg.tape, hg.output, hg.size, fun k hk hn => hg.block k hk (fun e => hn e.symm)⟩
theorem ret_i32 {a b : Int} (h : a = b) : Ending.returned (.int .i32 a) = .returned (.int .i32 b) := by rw [h]

set_option maxHeartbeats 2000000 in
theorem ex_even (F : Interp) (n : Nat) (h2 : 2 ≤ n) (hn : n < 18446744073709551616) (hev : n % 2 = 0) (S : Nat → Prop) (L : Nat) (ids : Value) (hlp : Nat) (V : Nat → Value) (N : Nat → Nat) (R U : Nat) (x : Int) (w : World) (hF : F.answers w.tape) (h : Bld w S L ids hlp V N)
    (hN : ∀ i, at5 i → N i + 4 * lg n ≤ 50000) (hh : hlp + lg n ≤ 50000) (hSR : ¬ S R) (hR : w.heap[R]? = some (.cells (rc L x U) 73 (0, 0)))
    (ih : Calls Ybaf.prog 17 #[.pointer (some ⟨R, 0, none⟩), .int .u64 (n / 2 : Nat)] w fun e w' => ∃ y : Int, e = .returned (.int .i32 y) ∧ After S w w' L ids (hlp + lg (n / 2)) N (N 2 + lg (n / 2)) (4 * lg (n / 2))) :
    Calls Ybaf.prog 17 #[.pointer (some ⟨R, 0, none⟩), .int .u64 n] w fun e w' => e = .returned (.int .i32 (N 2 + lg n - 1 : Nat)) ∧ After S w w' L ids (hlp + lg n) N (N 2 + lg n) (4 * lg n) := by
  have IH := hide ih
  have HL := hide (lg_half n h2 hn)
  have k0 : w.cell? ⟨R, 0, none⟩ = some (.pointer (some ⟨L, 0, none⟩)) := cell_of hR 0 _ rfl
  clear ih
  go_enter Ybaf.func17, Ybaf.ntmps17
  go_wp2_with fail
  rw [show ((n : Int) / 2) = ((n / 2 : Nat) : Int) from by omega]
  refine IH.out.mono ?_
  rintro e w1 ⟨y, rfl, V1, N1, B1, e1, b1, K1⟩
  have E1 := hide e1
  clear e1 IH k0
  have hF1 : F.answers w1.tape := by rw [K1.tape]; exact hF
  have hRw : R < w.heap.size := lt_of_block hR
  have hR1 := R_keep hR K1 hSR
  have hRlt : R < w1.heap.size := lt_of_block hR1
  have k1 : w1.cell? ⟨R, 0, none⟩ = some (.pointer (some ⟨L, 0, none⟩)) := cell_of hR1 0 _ rfl
  have KW := K1.alloc (.cells #[.int .i32 y, .int .i32 y] 54)
  have BW := B1.alloc (.cells #[.int .i32 y, .int .i32 y] 54)
  have hRW : (w1.alloc (.cells #[.int .i32 y, .int .i32 y] 54)).heap[R]? = some (.cells (rc L x U) 73 (0, 0)) := (Below.heap_alloc _ _ _ hRlt).trans hR1
  have hgS : ¬ Grow S w w1 w1.heap.size := fun hc => by have := B1.lt _ hc; omega
  have hRS : ¬ Grow S w w1 R := fun hc => by rcases hc with hc | hc; exact hSR hc; omega
  have hOW := own_two w1 (.int .i32 y) (.int .i32 y)
  have nb1 : ∀ i, at5 i → N1 i ≤ 50000 := fun i hi => by have := b1 i hi; have := hN i hi; have := HL.out; omega
  have nb2 : hlp + lg (n / 2) + 1 ≤ 50000 := by have := HL.out; omega
  clear hRlt
  have hRlt : R < w1.heap.size := lt_of_block hR1
  go_wp2_with fail
  refine (hidden_any F (Grow S w w1) L ids (hlp + lg (n / 2)) V1 N1 _ (by exact hF1) BW (fun i hi => by have := nb1 i hi; omega) (by omega)).mono ?_
  rintro e w2 ⟨rfl, V2, N2, B2, e2, b2, K2⟩
  have E2 := hide e2
  clear e2
  have hR2 := R_keep hRW K2 hRS
  have k2 : w2.cell? ⟨R, 0, none⟩ = some (.pointer (some ⟨L, 0, none⟩)) := cell_of hR2 0 _ rfl
  have hO2 := cells_keep hOW K2 hgS
  have T2 := keeps_two K1 KW (by simp) K2
  have hg2 : ¬ Grow (Grow S w w1) (w1.alloc (.cells #[.int .i32 y, .int .i32 y] 54)) w2 w1.heap.size := fun hc => by rcases hc with hc | hc; exact hgS hc; simp at hc; omega
  clear hOW hRW BW KW k1 K2
  go_wp2_with fail
  refine (AddRule_some _ L ids (hlp + lg (n / 2) + 1) V2 N2 (N1 2) w1.heap.size 2 2 _ _ B2 (fun i hi => by have := nb1 i hi; have := b2 i hi; omega) (by omega) (by omega) hO2 (by intro u hu; simp at hu; subst hu; rfl) hg2).mono ?_
  rintro e w3 ⟨rfl, A3⟩
  have A4 := After.comp (N := N) (d0 := 4 * lg (n / 2) + 1) h.lt T2.1 T2.2 A3 (fun i hi => by have := b1 i hi; have := b2 i hi; omega)
  clear A3
  go_wp2
  go_ret
  have e1 := E1.out
  have e2 := E2.out
  rw [e2, e1] at A4
  rw [HL.out]
  exact ⟨ret_i32 (by rw [e1]; omega), A4⟩

set_option maxRecDepth 20000 in
set_option maxHeartbeats 2000000 in
theorem ex_odd (F : Interp) (n : Nat) (h2 : 2 ≤ n) (hn : n < 18446744073709551616) (hod : n % 2 = 1) (S : Nat → Prop) (L : Nat) (ids : Value) (hlp : Nat) (V : Nat → Value) (N : Nat → Nat) (R U : Nat) (x : Int) (w : World) (hF : F.answers w.tape) (h : Bld w S L ids hlp V N)
    (hN : ∀ i, at5 i → N i + 4 * lg n ≤ 50000) (hh : hlp + lg n ≤ 50000) (hSR : ¬ S R) (hR : w.heap[R]? = some (.cells (rc L x U) 73 (0, 0)))
    (ih : Calls Ybaf.prog 17 #[.pointer (some ⟨R, 0, none⟩), .int .u64 (n / 2 : Nat)] w fun e w' => ∃ y : Int, e = .returned (.int .i32 y) ∧ After S w w' L ids (hlp + lg (n / 2)) N (N 2 + lg (n / 2)) (4 * lg (n / 2))) :
    Calls Ybaf.prog 17 #[.pointer (some ⟨R, 0, none⟩), .int .u64 n] w fun e w' => e = .returned (.int .i32 (N 2 + lg n - 1 : Nat)) ∧ After S w w' L ids (hlp + lg n) N (N 2 + lg n) (4 * lg n) := by
  have IH := hide ih
  have HL := hide (lg_half n h2 hn)
  have k0 : w.cell? ⟨R, 0, none⟩ = some (.pointer (some ⟨L, 0, none⟩)) := cell_of hR 0 _ rfl
  clear ih
  go_enter Ybaf.func17, Ybaf.ntmps17
  go_wp2_with fail
  rw [show ((n : Int) / 2) = ((n / 2 : Nat) : Int) from by omega]
  refine IH.out.mono ?_
  rintro e w1 ⟨y, rfl, V1, N1, B1, e1, b1, K1⟩
  have E1 := hide e1
  clear e1 IH k0
  have hF1 : F.answers w1.tape := by rw [K1.tape]; exact hF
  have hRw : R < w.heap.size := lt_of_block hR
  have hR1 := R_keep hR K1 hSR
  have hRlt : R < w1.heap.size := lt_of_block hR1
  have k1 : w1.cell? ⟨R, 0, none⟩ = some (.pointer (some ⟨L, 0, none⟩)) := cell_of hR1 0 _ rfl
  have KW := K1.alloc (.cells #[.int .i32 y, .int .i32 y] 54)
  have BW := B1.alloc (.cells #[.int .i32 y, .int .i32 y] 54)
  have hRW : (w1.alloc (.cells #[.int .i32 y, .int .i32 y] 54)).heap[R]? = some (.cells (rc L x U) 73 (0, 0)) := (Below.heap_alloc _ _ _ hRlt).trans hR1
  have hgS : ¬ Grow S w w1 w1.heap.size := fun hc => by have := B1.lt _ hc; omega
  have hRS : ¬ Grow S w w1 R := fun hc => by rcases hc with hc | hc; exact hSR hc; omega
  have hOW := own_two w1 (.int .i32 y) (.int .i32 y)
  have nb1 : ∀ i, at5 i → N1 i ≤ 50000 := fun i hi => by have := b1 i hi; have := hN i hi; have := HL.out; omega
  have nb2 : hlp + lg (n / 2) + 1 ≤ 50000 := by have := HL.out; omega
  have k1x : w1.cell? ⟨R, 1, none⟩ = some (.int .i32 x) := cell_of hR1 1 _ rfl
  obtain ⟨i54, hi54, hy0, hy1, hy2⟩ := info_parts Ybaf.info54
  go_wp2_with (at_builtin; refine wpList_append_own_at _ rfl (.tmp 24) (.tmp 29) 28 rfl 0 54 i54 (.int .i32 0) 1 4 Ybaf.underlying28 hi54 hy0 hy1 hy2 rfl (by decide) _ _ _ rfl (hOW.alloc _) ⟨w1.heap.size + 1, 0, none⟩ 1 1 [.int .i32 x] rfl rfl ?c1 ?c2 ?c3 ?c4 ?c5 ?_)
  case c1 => exact cell_new (by simp)
  case c2 => intro u hu; simp at hu; subst hu; rfl
  case c3 => decide
  case c4 => decide
  case c5 => omega
  intro v' wW hown hgrow hne hat
  obtain ⟨g, cp, rfl⟩ := some_of hown hne
  have KW' := (KW.alloc (.cells #[.int .i32 x] 54)).grown hgrow (fun k hk => .inr (by simp [Value.ownBlock] at hk; have := K1.size; omega))
  have BW' := (BW.alloc (.cells #[.int .i32 x] 54)).keep (S' := Grow S w w1) (keeps_of_grown hgrow) (fun k hk => by simp [Value.ownBlock] at hk; subst hk; exact hgS) (fun _ hk => hk) (fun k hk => by have := B1.lt k hk; have := hgrow.size; simp at this; omega)
  have hRW' : wW.heap[R]? = some (.cells (rc L x U) 73 (0, 0)) := (hgrow.block R (by simp; omega) (by simp [Value.ownBlock]; omega)).trans ((Below.heap_alloc _ _ _ (by simp; omega)).trans hRW)
  have hgg : w1.heap.size ≤ g := by rcases hat with hat | hat <;> simp [Value.ownBlock] at hat <;> omega
  have hglt : g < wW.heap.size := (hown.lt g rfl).2
  have hszW : w1.heap.size ≤ wW.heap.size := by have := hgrow.size; simp at this; omega
  have kW0 : wW.cell? ⟨R, 0, none⟩ = some (.pointer (some ⟨L, 0, none⟩)) := cell_of hRW' 0 _ rfl
  have hF2 : F.answers wW.tape := by rw [KW'.tape]; exact hF
  have hgS' : ¬ Grow S w w1 g := fun hc => by have := B1.lt _ hc; omega
  clear hat hne hgrow hOW BW KW hRW k1 k1x hgS
  go_wp2_with fail
  refine (hidden_any F (Grow S w w1) L ids (hlp + lg (n / 2)) V1 N1 _ (by exact hF2) BW' (fun i hi => by have := nb1 i hi; omega) (by omega)).mono ?_
  rintro e w2 ⟨rfl, V2, N2, B2, e2, b2, K2⟩
  have E2 := hide e2
  clear e2
  have hR2 := R_keep hRW' K2 hRS
  have k2 : w2.cell? ⟨R, 0, none⟩ = some (.pointer (some ⟨L, 0, none⟩)) := cell_of hR2 0 _ rfl
  have hO2 := cells_keep hown K2 hgS'
  have T2 := keeps_two K1 KW' hszW K2
  have hg2 : ¬ Grow (Grow S w w1) wW w2 g := fun hc => by rcases hc with hc | hc; exact hgS' hc; omega
  clear hown hRW' BW' KW' kW0 K2
  go_wp2_with fail
  refine (AddRule_some _ L ids (hlp + lg (n / 2) + 1) V2 N2 (N1 2) g cp 3 _ _ B2 (fun i hi => by have := nb1 i hi; have := b2 i hi; omega) (by omega) (by omega) hO2 (by intro u hu; simp at hu; rcases hu with rfl | rfl | rfl <;> rfl) hg2).mono ?_
  rintro e w3 ⟨rfl, A3⟩
  have A4 := After.comp (N := N) (d0 := 4 * lg (n / 2) + 1) h.lt T2.1 T2.2 A3 (fun i hi => by have := b1 i hi; have := b2 i hi; omega)
  clear A3
  go_wp2
  go_ret
  have e1 := E1.out
  have e2 := E2.out
  rw [e2, e1] at A4
  rw [HL.out]
  exact ⟨ret_i32 (by rw [e1]; omega), A4⟩

theorem After.none {S : Nat → Prop} {w : World} {L : Nat} {ids : Value} {hlp : Nat} {V : Nat → Value} {N : Nat → Nat} (h : Bld w S L ids hlp V N) : After S w w L ids hlp N (N 2) 0 := ⟨V, N, h.start, rfl, fun _ _ => Nat.le_refl _, Keeps.refl _ _⟩

theorem exactly_any (F : Interp) : ∀ n : Nat, 1 ≤ n → n < 18446744073709551616 → ∀ (S : Nat → Prop) (L : Nat) (ids : Value) (hlp : Nat) (V : Nat → Value) (N : Nat → Nat) (R U : Nat) (x : Int) (w : World), F.answers w.tape → Bld w S L ids hlp V N →
    (∀ i, at5 i → N i + 4 * lg n ≤ 50000) → hlp + lg n ≤ 50000 → ¬ S R → w.heap[R]? = some (.cells (rc L x U) 73 (0, 0)) →
    Calls Ybaf.prog 17 #[.pointer (some ⟨R, 0, none⟩), .int .u64 n] w fun e w' => e = .returned (.int .i32 (if n = 1 then x else (N 2 + lg n - 1 : Nat))) ∧ After S w w' L ids (hlp + lg n) N (N 2 + lg n) (4 * lg n) := by
  intro n
  induction n using Nat.strongRecOn with
  | ind n ih =>
    intro h1 hn S L ids hlp V N R U x w hF h hN hh hSR hR
    by_cases hone : n = 1
    · subst hone
      refine (ex_one L R U x w hR).mono ?_
      rintro e w' ⟨rfl, rfl⟩
      exact ⟨rfl, After.none h⟩
    · rw [if_neg hone]
      have hl := lg_half n (by omega) hn
      have IH := ih (n / 2) (by omega) (by omega) (by omega) S L ids hlp V N R U x w hF h (fun i hi => by have := hN i hi; omega) (by omega) hSR hR
      have IH' := IH.mono (R' := fun e w' => ∃ y : Int, e = .returned (.int .i32 y) ∧ After S w w' L ids (hlp + lg (n / 2)) N (N 2 + lg (n / 2)) (4 * lg (n / 2))) (fun e w' hx => ⟨_, hx.1, hx.2⟩)
      by_cases hev : n % 2 = 0
      · exact ex_even F n (by omega) hn hev S L ids hlp V N R U x w hF h hN hh hSR hR IH'
      · exact ex_odd F n (by omega) hn (by omega) S L ids hlp V N R U x w hF h hN hh hSR hR IH'
end Go.Proofs.YbulkboqsFmt.Rp
