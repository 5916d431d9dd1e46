import Derived.Lib.Strings
namespace Go.Proofs.Ybulkborg.Sp
open Go

/-- The last place below k at which s holds c, or -1. -/
def lastTo (s : ByteArray) (c : UInt8) : Nat → Int
  | 0 => -1
  | k + 1 => if s.data.toList.getD k 0 = c then (k : Int) else lastTo s c k

theorem lastTo_bounds (s : ByteArray) (c : UInt8) : ∀ k, -1 ≤ lastTo s c k ∧ lastTo s c k < k := by
  intro k
  induction k with
  | zero => simp [lastTo]
  | succ k ih =>
    unfold lastTo
    split <;> omega
theorem lastTo_hit (s : ByteArray) (c : UInt8) (k : Nat) (h : s.data.toList.getD k 0 = c) : lastTo s c (k + 1) = k := by rw [lastTo, if_pos h]
theorem lastTo_miss (s : ByteArray) (c : UInt8) (k : Nat) (h : ¬ s.data.toList.getD k 0 = c) : lastTo s c (k + 1) = lastTo s c k := by rw [lastTo, if_neg h]
theorem at_list (s : ByteArray) (k : Nat) (h : k < s.size) : s.data.toList.getD k 0 = s[k] := by
  have h' : k < s.data.toList.length := by simpa using h
  simp only [List.getD_eq_getElem?_getD, List.getElem?_eq_getElem h', Option.getD_some]
  rfl
theorem byte_eq (x : UInt8) (c : Nat) (hc : c < 256) : ((x.toNat : Int) == (c : Int)) = decide (x = UInt8.ofNat c) := by
  rw [Bool.eq_iff_iff]
  simp only [beq_iff_eq, decide_eq_true_eq]
  constructor
  · intro h
    apply UInt8.toNat_inj.1
    simp [UInt8.toNat_ofNat', Nat.mod_eq_of_lt hc]
    omega
  · intro h
    subst h
    simp [UInt8.toNat_ofNat', Nat.mod_eq_of_lt hc]
end Go.Proofs.Ybulkborg.Sp
