import Derived.Test.YbulkboqsFmtRpSym
namespace Go.Proofs.YbulkboqsFmt.Rp
open Go.RowKit Go Go.Maps Go.Extern.Stop Go.Stop Go.Extern

abbrev I32 (xs : List Int) : List Value := xs.map (Value.int .i32)
/-- A slice of int32 that came in: its cells are there wherever there is an element. -/
def Came (w : World) (a : Option Addr) (len : Nat) (Z : List Int) : Prop :=
  len ≤ Z.length ∧ ∀ j, j < len → ∃ b off, a = some ⟨b, off, none⟩ ∧ b < w.heap.size ∧ w.cell? ⟨b, off + j, none⟩ = some (.int .i32 (Z.getD j 0))

/-- A made row of which the first k cells have been filled. -/
def fill (Z : List Int) (k len : Nat) : List Int := Z.take k ++ List.replicate (len - k) 0
theorem fill_zero (Z : List Int) (len : Nat) : fill Z 0 len = List.replicate len 0 := by simp [fill]
theorem fill_all (Z : List Int) (len : Nat) : fill Z len len = Z.take len := by simp [fill]
theorem fill_set (Z : List Int) (k len : Nat) (hk : k < len) (hl : len ≤ Z.length) : (fill Z k len).set k (Z.getD k 0) = fill Z (k + 1) len := by
  have hz : k < Z.length := by omega
  have e1 : Z.take (k + 1) = Z.take k ++ [Z[k]] := by rw [List.take_add_one, List.getElem?_eq_getElem hz]; rfl
  have e2 : Z.getD k 0 = Z[k] := by simp [List.getElem?_eq_getElem hz]
  have e3 : len - k = (len - (k + 1)) + 1 := by omega
  unfold fill
  rw [e1, e2, e3, List.replicate_succ, List.set_append_right _ _ (by simp; omega), List.append_assoc]
  congr 1
  have : k - (List.take k Z).length = 0 := by simp; omega
  rw [this]
  rfl
theorem row_set {wr : World} {B g n c k : Nat} {xs ys : List Int} {x : Int} (h : wr.ownsRow B 54 1 (.slice (some ⟨g, 0, none⟩) n c) n (I32 xs)) (e : xs.set k x = ys) :
    (wr.setCell ⟨g, k, none⟩ (.int .i32 x)).ownsRow B 54 1 (.slice (some ⟨g, 0, none⟩) n c) n (I32 ys) := by
  have := (h.stored k (.int .i32 x)).1
  rw [I32, ← List.map_set, e] at this
  exact this
theorem cell_own {w : World} {base g n cap : Nat} {xs : List Int} (h : w.ownsRow base 54 1 (.slice (some ⟨g, 0, none⟩) n cap) n (I32 xs)) (j : Nat) (hj : j < n) :
    w.cell? ⟨g, j, none⟩ = some (.int .i32 (xs.getD j 0)) := by
  have hl := h.1
  simp at hl
  rw [h.cellAt j (by omega)]
  simp [List.getElem?_eq_getElem (show j < xs.length by omega)]

theorem copy_nil (w : World) : Calls Ybaf.prog 5 #[.slice none 0 0] w fun e w' => e = .returned (.slice none 0 0) ∧ w' = w := by
  have hnl := fun (w : World) (a : Option Addr) (n c n' c' : Nat) => Lib.run_eql_slice_nil (P := Ybaf.prog) w 22 21 a n c n' c' Ybaf.underlying22
  go_enter Ybaf.func5, Ybaf.ntmps5
  go_wp2
  go_ret
  exact ⟨rfl, rfl⟩

set_option maxHeartbeats 1000000 in
theorem copy_some (x : Addr) (len cap : Nat) (Z : List Int) (w : World) (hl : len ≤ 1024) (c : Came w (some x) len Z) :
    Calls Ybaf.prog 5 #[.slice (some x) len cap] w fun e w' => ∃ g, e = .returned (.slice (some ⟨g, 0, none⟩) len len) ∧ w.heap.size ≤ g ∧ w'.ownsRow 0 54 1 (.slice (some ⟨g, 0, none⟩) len len) len (I32 (Z.take len)) ∧ Below w.heap.size w w' := by
  have hnl := fun (w : World) (a : Option Addr) (n c n' c' : Nat) => Lib.run_eql_slice_nil (P := Ybaf.prog) w 22 21 a n c n' c' Ybaf.underlying22
  obtain ⟨i0, hi, hz0, hz1, hz2⟩ := info_parts Ybaf.info54
  go_enter Ybaf.func5, Ybaf.ntmps5
  go_wp2_with (at_make; refine wpList_make_full _ rfl (.tmp 8) (.tmp 8) 28 rfl 0 54 i0 (.int .i32 0) 1 Ybaf.underlying28 hi hz0 hz1 .i64 .i64 len len len rfl rfl rfl rfl ?c0 ?c1 ?c2 ?_)
  case c0 => rw [hz2]; omega
  case c1 => unfold maxLen; omega
  case c2 => omega
  intro w0 hmade hg0
  have R0 : w0.ownsRow 0 54 1 (.slice (some ⟨w.heap.size, 0, none⟩) len len) len (I32 (fill Z 0 len)) := by
    rw [fill_zero, I32, List.map_replicate, ← toList_madeCells_one]; exact hmade
  have B0 : Below w.heap.size w w0 := (Below.refl _ _).grown hg0 (Nat.le_refl _) (fun k hk => by cases hk)
  clear hmade hg0
  go_wp2
  go_loopw [4] (fun i wr => ∃ k : Nat, k ≤ len ∧ i = .int .i64 k ∧ wr.ownsRow 0 54 1 (.slice (some ⟨w.heap.size, 0, none⟩) len len) len (I32 (fill Z k len)) ∧ Below w.heap.size w wr) (fun i _ => len - (intOf i).toNat)
  case atStart => exact ⟨0, Nat.zero_le _, rfl, R0, B0⟩
  case round =>
    obtain ⟨k, hk, rfl, hR, hB⟩ := hrel
    clear R0 B0
    by_cases hlt : k < len
    · obtain ⟨b, off, e, hbw, hcell⟩ := c.2 k hlt
      obtain rfl : x = ⟨b, off, none⟩ := by simpa using e
      have HF : Hid ((fill Z k len).set k (Z.getD k 0) = fill Z (k + 1) len) := fill_set _ _ _ hlt c.1
      have hc : wr.cell? ⟨b, off + k, none⟩ = some (.int .i32 (Z.getD k 0)) := (hB.cell (by exact hbw)).trans hcell
      have hold := cell_own hR k hlt
      have hfz := hR.frozenAt k
      clear hcell e
      generalize Z.getD k 0 = r at *
      generalize (fill Z k len).getD k 0 = old at *
      go_wp2
      go_roundw
      case rel => exact ⟨k + 1, by omega, by go_num, row_set hR HF.out, hB.setCell (Nat.le_refl _) _⟩
      case measure => simp [intOf]; omega
    · obtain rfl : len = k := by omega
      rw [fill_all] at hR
      go_wp2
      go_ret
      exact ⟨_, rfl, Nat.le_refl _, hR, hB⟩
end Go.Proofs.YbulkboqsFmt.Rp
