import Derived.Test.YbulkborgDoorAddr
namespace Go.Proofs.YbulkborgDoor.Em
open Go.RowKit Go

/-- The number of an IPv4 address, as Go's text reckons it. -/
def v4 (a b c d : Int) : Int := bits .or .u64 (bits .or .u64 (bits .or .u64 (bits .or .u64 281470681743360 (a * 16777216)) (b * 65536)) (c * 256)) d

set_option maxHeartbeats 4000000 in
set_option maxRecDepth 100000 in
theorem from4_any (a b c d : Int) (z4 : Option Addr) (w : World) (ha : By a) (hb : By b) (hc : By c) (hd : By d) (hz : w.cell? ⟨1, 0, none⟩ = some (.pointer z4)) (h1 : 1 < w.heap.size) :
    Calls Ybad.prog 7 #[.agg #[.int .u8 a, .int .u8 b, .int .u8 c, .int .u8 d]] w fun e w' => e = .returned (.agg #[.int .u64 0, .int .u64 (v4 a b c d), .pointer z4]) ∧ Below w.heap.size w w' := by
  unfold By at ha hb hc hd
  have hz' : ((w.alloc (.cells #[.int .u8 a, .int .u8 b, .int .u8 c, .int .u8 d] 34)).alloc (.cells #[.int .u64 0, .int .u64 0, .pointer none] 30)).cell? ⟨1, 0, none⟩ = some (.pointer z4) :=
    ((((Below.refl w.heap.size w).alloc (Nat.le_refl _) _).alloc (by simp) _).cell (by exact h1)).trans hz
  go_enter Ybad.func7, Ybad.ntmps7
  go_wp2
  exact bodyPost_ret (v := .agg #[.int .u64 0, .int .u64 (v4 a b c d), .pointer z4]) (by simp [results, Ybad.results7, go_sem, v4]) rfl ⟨rfl, ((Below.refl _ _).alloc (Nat.le_refl _) _).alloc (by simp) _⟩
end Go.Proofs.YbulkborgDoor.Em
