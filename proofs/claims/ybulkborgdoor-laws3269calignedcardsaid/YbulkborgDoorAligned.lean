import Derived.Test.YbulkborgDoorAl0
import Derived.Test.YbulkborgDoorAl1
import Derived.Test.YbulkborgDoorAl2
namespace Go.Proofs.YbulkborgDoor.Em
open Go.RowKit Go

theorem aligned_any (b : Nat → Int) (k : Int) (z4 z6 : Option Addr) (w : World) (hb : ∀ i, By (b i)) (hk : By k) (hz4 : w.cell? ⟨1, 0, none⟩ = some (.pointer z4)) (hz6 : w.cell? ⟨0, 0, none⟩ = some (.pointer z6)) (h1 : 1 < w.heap.size) :
    Calls Ybad.prog 4 #[.agg (b16 b), .int .u8 k] w fun e w' => e = .returned (.bool true) ∧ Below w.heap.size w w' := by
  have hm : k % 6 = 0 ∨ k % 6 = 1 ∨ k % 6 = 2 ∨ k % 6 = 3 ∨ k % 6 = 4 ∨ k % 6 = 5 := by unfold By at hk; omega
  rcases hm with hm | hm | hm | hm | hm | hm
  · exact aligned0 b k z4 z6 w hb hk hz4 hz6 h1 hm
  · exact aligned1 b k z4 z6 w hb hk hz4 hz6 h1 hm
  · exact aligned2 b k z4 z6 w hb hk hz4 hz6 h1 hm
  · exact aligned3 b k z4 z6 w hb hk hz4 hz6 h1 hm
  · exact aligned4 b k z4 z6 w hb hk hz4 hz6 h1 hm
  · exact aligned5 b k z4 z6 w hb hk hz4 hz6 h1 hm
end Go.Proofs.YbulkborgDoor.Em
