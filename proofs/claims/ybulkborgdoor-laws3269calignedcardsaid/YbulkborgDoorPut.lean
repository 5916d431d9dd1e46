import Derived.Test.YbulkborgDoorFour
namespace Go.Proofs.YbulkborgDoor.Em
open Go.RowKit Go

/-- Eight bytes laid down. -/
def put8 (w : World) (g o : Nat) (x0 x1 x2 x3 x4 x5 x6 x7 : Int) : World :=
  (((((((w.setCell ⟨g, o, none⟩ (.int .u8 x0)).setCell ⟨g, o + 1, none⟩ (.int .u8 x1)).setCell ⟨g, o + 2, none⟩ (.int .u8 x2)).setCell ⟨g, o + 3, none⟩ (.int .u8 x3)).setCell ⟨g, o + 4, none⟩ (.int .u8 x4)).setCell ⟨g, o + 5, none⟩ (.int .u8 x5)).setCell ⟨g, o + 6, none⟩ (.int .u8 x6)).setCell ⟨g, o + 7, none⟩ (.int .u8 x7)

theorem be_bytes {x0 x1 x2 x3 x4 x5 x6 x7 : Int} (h0 : By x0) (h1 : By x1) (h2 : By x2) (h3 : By x3) (h4 : By x4) (h5 : By x5) (h6 : By x6) (h7 : By x7) :
    be x0 x1 x2 x3 x4 x5 x6 x7 / 72057594037927936 = x0 ∧ be x0 x1 x2 x3 x4 x5 x6 x7 / 281474976710656 % 256 = x1 ∧ be x0 x1 x2 x3 x4 x5 x6 x7 / 1099511627776 % 256 = x2 ∧ be x0 x1 x2 x3 x4 x5 x6 x7 / 4294967296 % 256 = x3 ∧
    be x0 x1 x2 x3 x4 x5 x6 x7 / 16777216 % 256 = x4 ∧ be x0 x1 x2 x3 x4 x5 x6 x7 / 65536 % 256 = x5 ∧ be x0 x1 x2 x3 x4 x5 x6 x7 / 256 % 256 = x6 ∧ be x0 x1 x2 x3 x4 x5 x6 x7 % 256 = x7 ∧ 0 ≤ be x0 x1 x2 x3 x4 x5 x6 x7 ∧ be x0 x1 x2 x3 x4 x5 x6 x7 < 18446744073709551616 := by
  unfold By at *
  unfold be
  omega

set_option maxHeartbeats 4000000 in
set_option maxRecDepth 100000 in
theorem put_raw (g o n c : Nat) (v : Int) (y0 y1 y2 y3 y4 y5 y6 y7 : Value) (w : World) (hn : n = 8) (hv0 : 0 ≤ v) (hv1 : v < 18446744073709551616)
    (c0 : w.cell? ⟨g, o, none⟩ = some y0) (c1 : w.cell? ⟨g, o + 1, none⟩ = some y1) (c2 : w.cell? ⟨g, o + 2, none⟩ = some y2) (c3 : w.cell? ⟨g, o + 3, none⟩ = some y3) (c4 : w.cell? ⟨g, o + 4, none⟩ = some y4) (c5 : w.cell? ⟨g, o + 5, none⟩ = some y5) (c6 : w.cell? ⟨g, o + 6, none⟩ = some y6) (c7 : w.cell? ⟨g, o + 7, none⟩ = some y7)
    (f0 : w.frozen? ⟨g, o, none⟩ = false) (f1 : w.frozen? ⟨g, o + 1, none⟩ = false) (f2 : w.frozen? ⟨g, o + 2, none⟩ = false) (f3 : w.frozen? ⟨g, o + 3, none⟩ = false) (f4 : w.frozen? ⟨g, o + 4, none⟩ = false) (f5 : w.frozen? ⟨g, o + 5, none⟩ = false) (f6 : w.frozen? ⟨g, o + 6, none⟩ = false) (f7 : w.frozen? ⟨g, o + 7, none⟩ = false) :
    Calls Ybad.prog 11 #[.slice (some ⟨g, o, none⟩) n c, .int .u64 v] w fun e w' => e = .returned (.tuple #[]) ∧ w' = put8 w g o (v / 72057594037927936) (v / 281474976710656 % 256) (v / 1099511627776 % 256) (v / 4294967296 % 256) (v / 16777216 % 256) (v / 65536 % 256) (v / 256 % 256) (v % 256) := by
  subst hn
  go_enter Ybad.func11, Ybad.ntmps11
  go_wp2
  go_end0
  exact ⟨rfl, rfl⟩

theorem put_any (g o c : Nat) (x0 x1 x2 x3 x4 x5 x6 x7 : Int) (w : World) (cs : Array Value) (t : TypeId) (hB : w.heap[g]? = some (.cells cs t (0, 0))) (hsz : o + 8 ≤ cs.size)
    (h0 : By x0) (h1 : By x1) (h2 : By x2) (h3 : By x3) (h4 : By x4) (h5 : By x5) (h6 : By x6) (h7 : By x7) :
    Calls Ybad.prog 11 #[.slice (some ⟨g, o, none⟩) 8 c, .int .u64 (be x0 x1 x2 x3 x4 x5 x6 x7)] w fun e w' => e = .returned (.tuple #[]) ∧ w' = put8 w g o x0 x1 x2 x3 x4 x5 x6 x7 := by
  obtain ⟨e0, e1, e2, e3, e4, e5, e6, e7, e8, e9⟩ := be_bytes h0 h1 h2 h3 h4 h5 h6 h7
  have key := put_raw g o 8 c _ _ _ _ _ _ _ _ _ w rfl e8 e9 (cell_of hB o _ (Array.getElem?_eq_getElem (by omega))) (cell_of hB (o + 1) _ (Array.getElem?_eq_getElem (by omega))) (cell_of hB (o + 2) _ (Array.getElem?_eq_getElem (by omega))) (cell_of hB (o + 3) _ (Array.getElem?_eq_getElem (by omega))) (cell_of hB (o + 4) _ (Array.getElem?_eq_getElem (by omega))) (cell_of hB (o + 5) _ (Array.getElem?_eq_getElem (by omega))) (cell_of hB (o + 6) _ (Array.getElem?_eq_getElem (by omega))) (cell_of hB (o + 7) _ (Array.getElem?_eq_getElem (by omega)))
    (free_of hB _) (free_of hB _) (free_of hB _) (free_of hB _) (free_of hB _) (free_of hB _) (free_of hB _) (free_of hB _)
  rw [e0, e1, e2, e3, e4, e5, e6, e7] at key
  exact key
end Go.Proofs.YbulkborgDoor.Em
