import Derived.Test.YbulkborgModel
import Derived.Maps.AppendAt
import Derived.Laws.BytesArg
namespace Go.Proofs.Ybulkborg.Sp
open Go.RowKit Go

/-- A slice of bytes that came in: its cells are there wherever there is an element. -/
def Came (w : World) (a : Option Addr) (len : Nat) (Z : List Int) : Prop :=
  len ≤ Z.length ∧ ∀ j, j < len → ∃ b off, a = some ⟨b, off, none⟩ ∧ b < w.heap.size ∧ w.cell? ⟨b, off + j, none⟩ = some (.int .u8 (Z.getD j 0)) ∧ 0 ≤ Z.getD j 0 ∧ Z.getD j 0 ≤ 255

theorem Yba.info5 : (Yba.prog.info? 5).map (fun i => (i.zero, i.size, i.bytes)) = some (some (.int .u8 0), 1, 1) := by kernel_rfl

def tab (r : Int) : Int := [58, 93, 91, 97, 49, 46].getD r.toNat 0
theorem idx_tab (r : Int) (h0 : 0 ≤ r) (h1 : r < 6) (w : World) : (Instr.index 9 (.string ⟨#[58, 93, 91, 97, 49, 46]⟩) (.int .i64 r)).run Yba.prog w = .ok (.int .u8 (tab r)) w := by
  obtain rfl | rfl | rfl | rfl | rfl | rfl : r = 0 ∨ r = 1 ∨ r = 2 ∨ r = 3 ∨ r = 4 ∨ r = 5 := by omega
  all_goals kernel_rfl

theorem cell_new {w : World} {v : Value} {t : TypeId} {b : Nat} (hb : b = w.heap.size) : ∀ j u, [v][j]? = some u → (w.alloc (.cells #[v] t)).cell? ((⟨b, 0, none⟩ : Addr).add j) = some u := by
  subst hb; exact cell_one_new _ _ _

theorem own_cell {w : World} {base g n cap : Nat} {xs : List Int} (h : w.ownsRow base 5 1 (.slice (some ⟨g, 0, none⟩) n cap) n (xs.map (Value.int .u8))) (j : Nat) (hj : j < n) :
    w.cell? ⟨g, 0 + j, none⟩ = some (.int .u8 (xs.getD j 0)) := by
  have hl := h.1
  simp at hl
  rw [Nat.zero_add, h.cellAt j (by omega)]
  simp [List.getElem?_eq_getElem (show j < xs.length by omega)]

/-- What is gathered after k picks: a row of k bytes. -/
def Rel (w wr : World) (k : Nat) (v : Value) : Prop :=
  ∃ xs : List Int, xs.length = k ∧ wr.ownsRow w.heap.size 5 1 v k (xs.map (Value.int .u8)) ∧ Below w.heap.size w wr ∧ v ≠ .slice none 0 0

set_option maxHeartbeats 1000000 in
theorem build_any (a : Option Addr) (len cap : Nat) (Z : List Int) (w : World) (hl : len ≤ 4096) (c : Came w a len Z) :
    Calls Yba.prog 9 #[.slice a len cap] w fun e w' => ∃ s : ByteArray, e = .returned (.string s) ∧ s.size ≤ 4096 ∧ Below w.heap.size w w' := by
  obtain ⟨i0, hi, hz0, hz1, hz2⟩ := info_parts Yba.info5
  go_enter Yba.func9, Yba.ntmps9
  go_wp2_with (at_make; refine wpList_make_own _ rfl _ (.tmp 6) 25 rfl w.heap.size 5 i0 (.int .u8 0) 1 Yba.underlying25 hi hz0 hz1 .i64 .i64 len len rfl rfl rfl ?c0 ?c1 ?c2 ?_)
  case c0 => rw [hz2]; omega
  case c1 => unfold maxLen; omega
  case c2 => omega
  intro w0 hmade hg0
  have R0 : Rel w w0 0 (.slice (some ⟨w.heap.size, 0, none⟩) 0 len) := ⟨[], rfl, hmade, (Below.refl _ _).grown hg0 (Nat.le_refl _) (fun k hk => by cases hk), by simp⟩
  clear hmade hg0
  go_wp2
  go_loopw [3, 4] (fun v i wr => ∃ k : Nat, k ≤ len ∧ i = .int .i64 k ∧ Rel w wr k v) (fun _ i _ => len - (intOf i).toNat)
  case atStart => exact ⟨0, Nat.zero_le _, rfl, R0⟩
  case round =>
    obtain ⟨k, hk, rfl, hR⟩ := hrel
    clear R0
    obtain ⟨xs, hx, hown, hB, hne⟩ := hR
    have HX := hide hx
    clear hx
    by_cases hlt : k < len
    · obtain ⟨b, off, rfl, hbw, hcell, z0, z1⟩ := c.2 k hlt
      have hc : wr.cell? ⟨b, off + k, none⟩ = some (.int .u8 (Z.getD k 0)) := (hB.cell (by exact hbw)).trans hcell
      have hsz := hB.size
      clear hcell
      generalize Z.getD k 0 = z at *
      have hidx := fun w => idx_tab (z % 6) (by omega) (by omega) w
      generalize htb : tab (z % 6) = t at *
      clear htb
      go_wp2_with (at_builtin; refine wpList_append_own _ rfl (.tmp 14) (.tmp 22) 25 rfl w.heap.size 5 i0 (.int .u8 0) 1 1 Yba.underlying25 hi hz0 hz1 hz2 rfl (by decide) _ _ _ rfl (hown.alloc _) ⟨wr.heap.size, 0, none⟩ 1 1 [.int .u8 t] rfl rfl ?d1 ?d2 ?d3 ?d4 ?d5 ?_)
      case d1 => exact cell_new rfl
      case d2 => intro u hu; simp at hu; subst hu; rfl
      case d3 => unfold maxLen; omega
      case d4 => omega
      case d5 => simp; omega
      intro v' w1 hown' hgrow hnil
      have R1 : Rel w w1 (k + 1) v' := ⟨xs ++ [t], by simp [HX.out], by simpa using hown', (hB.alloc hB.size _).grown hgrow (by simp; omega) (fun j hj => (hown.lt j hj).1), hnil⟩
      clear hown' hgrow hnil hown hidx
      go_wp2
      go_roundw
      case rel => exact ⟨k + 1, by omega, by go_num, R1⟩
      case measure => simp [intOf]; omega
    · obtain rfl : len = k := by omega
      obtain ⟨g, cp, rfl⟩ : ∃ g cp, _ = Value.slice (some ⟨g, 0, none⟩) len cp := by
        rcases hown.2 with ⟨h, _⟩ | ⟨g, cp, _, h, _⟩
        · exact absurd h hne
        · exact ⟨g, cp, h⟩
      have hcv := run_convert_bytes_arg (P := Yba.prog) wr 25 5 Yba.underlying25 Yba.underlying5 g 0 len cp xs HX.out (fun i hi => own_cell hown i hi) 9 Yba.underlying9
      have hss : (strOfNums xs).size ≤ 4096 := by rw [strOfNums_size, HX.out]; exact hl
      go_wp2
      go_ret
      exact ⟨_, rfl, hss, hB⟩
end Go.Proofs.Ybulkborg.Sp
