/- math/bits.Len64 by the shelf's contract, laid at this dump by the kit's tools lay-shelf and lay-plain. -/
import Derived.Shelf.Strconv.Itoa0
import Derived.Test.YbulkboqsFmtProg
namespace Go.Proofs
open Go.Shelf
def Ybaf.lays129_ren : Go.Shelf.Ren := ⟨fun | 129 => 7 | n => n, fun | 53 => 23 | 3 => 3 | 4 => 4 | 46 => 75 | 5 => 5 | 9 => 9 | n => n, fun | n => n⟩
theorem Ybaf.lays129 : Go.Proofs.Lays.n129 Ybaf.prog Ybaf.lays129_ren := {
  mixed := by kernel_rfl
  f129 := Ybaf.func7.trans (congrArg some (by kernel_rfl))
  t3 := Ybaf.underlying3
  a3 := Ybaf.isAgg3
  z3 := Ybaf.sizeOf3
  v3 := Ybaf.zeroValue3
  t4 := Ybaf.underlying4
  a4 := Ybaf.isAgg4
  z4 := Ybaf.sizeOf4
  v4 := Ybaf.zeroValue4
  t5 := Ybaf.underlying5
  a5 := Ybaf.isAgg5
  z5 := Ybaf.sizeOf5
  v5 := Ybaf.zeroValue5
  t9 := Ybaf.underlying9
  a9 := Ybaf.isAgg9
  z9 := Ybaf.sizeOf9
  v9 := Ybaf.zeroValue9
  t46 := Ybaf.underlying75
  a46 := Ybaf.isAgg75
  z46 := Ybaf.sizeOf75
  v46 := Ybaf.zeroValue75
  t53 := Ybaf.underlying23
  a53 := Ybaf.isAgg23
  z53 := Ybaf.sizeOf23
  v53 := Ybaf.zeroValue23 }
theorem Ybaf.bits_Len64 (x : Int) (w : World) (h0 : 0 ≤ x) (h1 : x ≤ 18446744073709551615) :
    Calls Ybaf.prog 7 #[.int .u64 x] w fun e w' => e = .returned (.int .i64 (Lib.bitLen x.toNat)) ∧ w' = w := Any.bits_Len64 Ybaf.lays129 x w h0 h1
end Go.Proofs
