import Derived.Test.YbulkboqsCmEq
namespace Go.Proofs.Ybulkboqs.Cm
open Go.RowKit Go

theorem Yba.info26 : (Yba.prog.info? 26).map (fun i => (i.zero, i.size, i.bytes)) = some (some (.int .i32 0), 1, 4) := by kernel_rfl

set_option maxHeartbeats 400000 in
theorem equal_none (a1 a2 : Option Addr) (c1 c2 : Nat) (w : World) :
    Calls Yba.prog 6 #[.slice a1 0 c1, .slice a2 0 c2] w fun e w' => e = .returned (.bool true) ∧ ∃ q, w' = w.drewN q := by
  go_enter Yba.func6, Yba.ntmps6
  go_wp2
  refine wp_loop_rounds 1 ?_
  rw [rounds_succ]
  go_wp2
  go_ret
  exact ⟨rfl, 0, rfl⟩

/-- slices.Equal of two rows that hold the same numbers. -/
theorem equal_any (v1 v2 : Value) (b1 b2 n : Nat) (xs : List Int) (w : World) (hn : n ≤ 1024) (hx : w.ownsRow b1 26 1 v1 n (I32 xs)) (hy : w.ownsRow b2 26 1 v2 n (I32 xs)) :
    Calls Yba.prog 6 #[v1, v2] w fun e w' => e = .returned (.bool true) ∧ ∃ q, w' = w.drewN q := by
  rcases hx.2 with ⟨rfl, hn0⟩ | ⟨g, cap, cur, rfl, _⟩
  · subst hn0
    rcases hy.2 with ⟨rfl, hn0⟩ | ⟨g, cap, cur, rfl, _⟩
    · exact equal_none _ _ _ _ _
    · exact equal_none _ _ _ _ _
  · rcases hy.2 with ⟨rfl, hn0⟩ | ⟨g', cap', cur', rfl, _⟩
    · subst hn0; exact equal_none _ _ _ _ _
    · exact equal_rows _ _ _ _ _ _ _ xs xs w hn hx hy rfl

set_option maxHeartbeats 400000 in
theorem clone_nil (w : World) : Calls Yba.prog 4 #[.slice none 0 0] w fun e w' => e = .returned (.slice none 0 0) ∧ w' = w := by
  have hnl := fun (w : World) (a : Option Addr) (n c n' c' : Nat) => Lib.run_eql_slice_nil (P := Yba.prog) w 24 26 a n c n' c' Yba.underlying24
  go_enter Yba.func4, Yba.ntmps4
  go_wp2
  go_ret
  exact ⟨rfl, rfl⟩

set_option maxHeartbeats 400000 in
theorem clone_own (g c b n : Nat) (xs : List Int) (w : World) (hn : n ≤ 1024) (hx : w.ownsRow b 26 1 (.slice (some ⟨g, 0, none⟩) n c) n (I32 xs)) :
    Calls Yba.prog 4 #[.slice (some ⟨g, 0, none⟩) n c] w fun e w' => ∃ v, e = .returned v ∧ w'.ownsRow w.heap.size 26 1 v n (I32 xs) ∧ Below w.heap.size w w' ∧ v ≠ .slice none 0 0 := by
  obtain ⟨i0, hi, hz0, hz1, hz2⟩ := info_parts Yba.info26
  have hnl := fun (w : World) (a : Option Addr) (n c n' c' : Nat) => Lib.run_eql_slice_nil (P := Yba.prog) w 24 26 a n c n' c' Yba.underlying24
  go_enter Yba.func4, Yba.ntmps4
  go_wp2_with (at_builtin; refine wpList_append_own _ rfl (.tmp 5) (.tmp 6) 24 rfl w.heap.size 26 i0 (.int .i32 0) 1 4 Yba.underlying24 hi hz0 hz1 hz2 rfl (by decide) _ _ _ rfl (World.ownsRow_lit w #[] 0 (Nat.le_refl _) (by decide) rfl) ⟨g, 0, none⟩ n c (I32 xs) rfl ?c0 ?c1 ?c2 ?c3 ?c4 ?c5 ?_)
  case c0 => exact hx.1
  case c1 => exact (hx.alloc _).cells rfl
  case c2 => exact ints_oneCell _ _
  case c3 => unfold maxLen; omega
  case c4 => omega
  case c5 => simp
  intro v' w1 hown hgrow hne
  go_wp2
  go_ret
  exact ⟨_, rfl, hown, ((Below.refl _ _).alloc (Nat.le_refl _) _).grown hgrow (by simp) (fun k hk => by simp [Value.ownBlock] at hk; omega), hne⟩
end Go.Proofs.Ybulkboqs.Cm
