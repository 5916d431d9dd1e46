import Derived.Laws.OwnMore
namespace Go.Proofs.Ybulkboqs.Cm
open Go

/-- A made row of which the first k cells have been filled. -/
def fill (f : Int → Int) (Z : List Int) (k len : Nat) : List Int := (Z.take k).map f ++ List.replicate (len - k) 0

theorem fill_zero (f : Int → Int) (Z : List Int) (len : Nat) : fill f Z 0 len = List.replicate len 0 := by simp [fill]
theorem fill_all (f : Int → Int) (Z : List Int) (len : Nat) : fill f Z len len = (Z.take len).map f := by simp [fill]
theorem fill_set (f : Int → Int) (Z : List Int) (k len : Nat) (hk : k < len) (hl : len ≤ Z.length) : (fill f Z k len).set k (f (Z.getD k 0)) = fill f Z (k + 1) len := by
  have hz : k < Z.length := by omega
  have e1 : Z.take (k + 1) = Z.take k ++ [Z[k]] := by rw [List.take_add_one, List.getElem?_eq_getElem hz]; rfl
  have e2 : Z.getD k 0 = Z[k] := by simp [List.getElem?_eq_getElem hz]
  have e3 : len - k = (len - (k + 1)) + 1 := by omega
  unfold fill
  rw [e1, e2, e3, List.replicate_succ, List.set_append_right _ _ (by simp; omega), List.map_append, List.append_assoc]
  congr 1
  have : k - (List.map f (List.take k Z)).length = 0 := by simp; omega
  rw [this]
  rfl
theorem map_getD (f : Int → Int) (Z : List Int) (j : Nat) (hj : j < Z.length) : (Z.map f).getD j 0 = f (Z.getD j 0) := by
  simp [List.getElem?_eq_getElem hj]
end Go.Proofs.Ybulkboqs.Cm
