import Derived.Test.YbulkborgDoorPut
namespace Go.Proofs.YbulkborgDoor.Em
open Go.RowKit Go

abbrev zero16 : Array Value := b16 (fun _ => 0)
abbrev half16 (b : Nat → Int) : Array Value := #[.int .u8 (b 0), .int .u8 (b 1), .int .u8 (b 2), .int .u8 (b 3), .int .u8 (b 4), .int .u8 (b 5), .int .u8 (b 6), .int .u8 (b 7), .int .u8 0, .int .u8 0, .int .u8 0, .int .u8 0, .int .u8 0, .int .u8 0, .int .u8 0, .int .u8 0]
theorem put8_heap {w : World} {g o : Nat} {cs : Array Value} {t : TypeId} (x0 x1 x2 x3 x4 x5 x6 x7 : Int) (h : w.heap[g]? = some (.cells cs t (0, 0))) :
    (put8 w g o x0 x1 x2 x3 x4 x5 x6 x7).heap[g]? = some (.cells ((((((((cs.setIfInBounds o (.int .u8 x0)).setIfInBounds (o + 1) (.int .u8 x1)).setIfInBounds (o + 2) (.int .u8 x2)).setIfInBounds (o + 3) (.int .u8 x3)).setIfInBounds (o + 4) (.int .u8 x4)).setIfInBounds (o + 5) (.int .u8 x5)).setIfInBounds (o + 6) (.int .u8 x6)).setIfInBounds (o + 7) (.int .u8 x7)) t (0, 0)) := by
  unfold put8
  exact heap_setCell_same _ _ _ _ _ _ (heap_setCell_same _ _ _ _ _ _ (heap_setCell_same _ _ _ _ _ _ (heap_setCell_same _ _ _ _ _ _ (heap_setCell_same _ _ _ _ _ _ (heap_setCell_same _ _ _ _ _ _ (heap_setCell_same _ _ _ _ _ _ (heap_setCell_same _ _ _ _ _ _ h)))))))
theorem put8_below {B : Nat} {a w : World} {g o : Nat} (x0 x1 x2 x3 x4 x5 x6 x7 : Int) (h : Below B a w) (hg : B ≤ g) : Below B a (put8 w g o x0 x1 x2 x3 x4 x5 x6 x7) := by
  unfold put8
  exact (((((((h.setCell (p := ⟨g, o, none⟩) hg _).setCell (p := ⟨g, o + 1, none⟩) hg _).setCell (p := ⟨g, o + 2, none⟩) hg _).setCell (p := ⟨g, o + 3, none⟩) hg _).setCell (p := ⟨g, o + 4, none⟩) hg _).setCell (p := ⟨g, o + 5, none⟩) hg _).setCell (p := ⟨g, o + 6, none⟩) hg _).setCell (p := ⟨g, o + 7, none⟩) hg _
theorem put8_other {w : World} {g o k : Nat} (x0 x1 x2 x3 x4 x5 x6 x7 : Int) (hk : k ≠ g) : (put8 w g o x0 x1 x2 x3 x4 x5 x6 x7).heap[k]? = w.heap[k]? := by
  unfold put8
  iterate 8 rw [Below.heap_setCell _ _ _ _ hk]

theorem half_heap {w : World} {g : Nat} {t : TypeId} (b : Nat → Int) (h : w.heap[g]? = some (.cells zero16 t (0, 0))) :
    (put8 w g 0 (b 0) (b 1) (b 2) (b 3) (b 4) (b 5) (b 6) (b 7)).heap[g]? = some (.cells (half16 b) t (0, 0)) := by
  rw [put8_heap (b 0) (b 1) (b 2) (b 3) (b 4) (b 5) (b 6) (b 7) h]
  kernel_rfl
theorem full_heap {w : World} {g : Nat} {t : TypeId} (b : Nat → Int) (h : w.heap[g]? = some (.cells (half16 b) t (0, 0))) :
    (put8 w g 8 (b 8) (b 9) (b 10) (b 11) (b 12) (b 13) (b 14) (b 15)).heap[g]? = some (.cells (b16 b) t (0, 0)) := by
  rw [put8_heap (b 8) (b 9) (b 10) (b 11) (b 12) (b 13) (b 14) (b 15) h]
  kernel_rfl

end Go.Proofs.YbulkborgDoor.Em
