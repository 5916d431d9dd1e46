import Derived.Laws.OwnMore
namespace Go.Proofs.Ybulkboqs.Cm
open Go

/-- One more number: -1 and what is there already are left out. -/
def step (acc : List Int) (v : Int) : List Int := if v = -1 ∨ v ∈ acc then acc else acc ++ [v]
def once (vs : List Int) : List Int := vs.foldl step []
/-- What is gathered behind k symbols. -/
def upTo (num ss : List Int) (k : Nat) : List Int := once ((ss.take k).map fun s => num.getD s.toNat 0)

theorem upTo_zero (num ss : List Int) : upTo num ss 0 = [] := by simp [upTo, once]
theorem upTo_succ (num ss : List Int) (k : Nat) (hk : k < ss.length) : upTo num ss (k + 1) = step (upTo num ss k) (num.getD (ss.getD k 0).toNat 0) := by
  unfold upTo once
  have e : ss.take (k + 1) = ss.take k ++ [ss[k]] := by rw [List.take_add_one, List.getElem?_eq_getElem hk]; rfl
  rw [e, List.map_append, List.foldl_append]
  have e2 : ss.getD k 0 = ss[k] := by simp [List.getElem?_eq_getElem hk]
  rw [e2]
  rfl
theorem step_skip {acc : List Int} {v : Int} (h : v = -1 ∨ v ∈ acc) : step acc v = acc := by simp [step, h]
theorem step_take {acc : List Int} {v : Int} (h1 : v ≠ -1) (h2 : v ∉ acc) : step acc v = acc ++ [v] := by simp [step, h1, h2]
theorem step_len (acc : List Int) (v : Int) : (step acc v).length ≤ acc.length + 1 := by
  unfold step; split <;> simp
theorem upTo_len (num ss : List Int) (k : Nat) (hk : k ≤ ss.length) : (upTo num ss k).length ≤ k := by
  induction k with
  | zero => simp [upTo_zero]
  | succ k ih =>
    rw [upTo_succ _ _ _ (by omega)]
    have := step_len (upTo num ss k) (num.getD (ss.getD k 0).toNat 0)
    have := ih (by omega)
    omega

/-- Which numbers below n have been seen. -/
def seenL (n : Nat) (acc : List Int) : List Value := (List.range n).map fun (j : Nat) => Value.bool (decide ((j : Int) ∈ acc))
theorem seenL_len (n : Nat) (acc : List Int) : (seenL n acc).length = n := by simp [seenL]
theorem seenL_nil (n : Nat) : seenL n [] = List.replicate n (.bool false) := by
  apply List.ext_getElem
  · simp [seenL]
  · intro i h1 h2; simp [seenL]
theorem seenL_at (n : Nat) (acc : List Int) (v : Int) (h0 : 0 ≤ v) (h1 : v < n) : (seenL n acc)[v.toNat]? = some (.bool (decide (v ∈ acc))) := by
  have : v.toNat < n := by omega
  simp [seenL, this, Int.toNat_of_nonneg h0]
theorem seenL_set (n : Nat) (acc : List Int) (v : Int) (h0 : 0 ≤ v) (_h1 : v < n) : (seenL n acc).set v.toNat (.bool true) = seenL n (acc ++ [v]) := by
  apply List.ext_getElem
  · simp [seenL]
  · intro i h1 h2
    rw [List.getElem_set]
    simp only [seenL, List.getElem_map, List.getElem_range]
    split
    · rename_i h; subst h; simp [Int.toNat_of_nonneg h0]
    · rename_i h
      have : ¬ (i : Int) = v := by omega
      simp [this]
end Go.Proofs.Ybulkboqs.Cm
