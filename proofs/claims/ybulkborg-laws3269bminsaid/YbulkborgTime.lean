import Derived.Test.YbulkborgRows
import Derived.WalkKit
import Derived.ProofKit
import Derived.WalkLawsBesides
import Derived.WalkSpells
import Derived.Deep.QuietTactic
import Derived.BigQuiet
import Derived.Laws.StructEq
import Derived.Laws.Pointers
import Derived.Laws.BitsLemmas
import Derived.Laws.Bits64
namespace Go.Proofs.Ybulkborg.Tm
open Go.RowKit Go

theorem hide {p : Prop} (h : p) : Hid p := h
theorem cell_of {w : World} {L : Nat} {cs : Array Value} {t : TypeId} (h : w.heap[L]? = some (.cells cs t (0, 0))) (i : Nat) (v : Value) (hv : cs[i]? = some v) : w.cell? ⟨L, i, none⟩ = some v := by simp [World.cell?, h, hv]
theorem free_of {w : World} {L : Nat} {cs : Array Value} {t : TypeId} (h : w.heap[L]? = some (.cells cs t (0, 0))) (i : Nat) : w.frozen? ⟨L, i, none⟩ = false := by simp [World.frozen?, h]

theorem wraps_u64 (n : Int) (h₀ : 0 ≤ n) (h₁ : n < 2 ^ 64) : IntKind.u64.wrap n = n := by rw [IntKind.wrap_u64]; omega
theorem and_nat (a b : Nat) (ha : a < 2 ^ 64) (hb : b < 2 ^ 64) : bits .and .u64 (a : Int) (b : Int) = ((a &&& b : Nat) : Int) :=
  (bits_nat .u64 64 (by decide) wraps_u64 a b ha hb).1
theorem and_mask (x : Int) (h0 : 0 ≤ x) (h1 : x < 1073741824) : bits .and .u64 x 1073741823 = x := by
  obtain ⟨a, rfl⟩ : ∃ a : Nat, x = a := ⟨x.toNat, by omega⟩
  have h := and_nat a 1073741823 (by omega) (by decide)
  have e : a &&& 1073741823 = a := by
    rw [show (1073741823 : Nat) = 2 ^ 30 - 1 from rfl, Nat.and_two_pow_sub_one_eq_mod]
    omega
  rw [e] at h
  simpa using h
theorem and_two (x y : Int) (h0 : 0 ≤ x) (h1 : x < 1073741824) (k0 : 0 ≤ y) (k1 : y < 1073741824) : bits .and .u64 (bits .and .u64 x y) 9223372036854775808 = 0 := by
  obtain ⟨a, rfl⟩ : ∃ a : Nat, x = a := ⟨x.toNat, by omega⟩
  obtain ⟨b, rfl⟩ : ∃ b : Nat, y = b := ⟨y.toNat, by omega⟩
  rw [and_nat a b (by omega) (by omega)]
  have hle : a &&& b ≤ a := Nat.and_le_left
  have h := and_nat (a &&& b) 9223372036854775808 (by omega) (by decide)
  have e : (a &&& b) &&& 9223372036854775808 = 0 := by
    have e2 : (a &&& b) = (a &&& b) &&& (2 ^ 30 - 1) := by rw [Nat.and_two_pow_sub_one_eq_mod, Nat.mod_eq_of_lt (by omega)]
    rw [e2, Nat.and_assoc, show ((2 ^ 30 - 1) &&& 9223372036854775808 : Nat) = 0 by decide, Nat.and_zero]
  rw [e] at h
  simpa using h
theorem and_flag (x : Int) (h0 : 0 ≤ x) (h1 : x < 1073741824) : bits .and .u64 x 9223372036854775808 = 0 := by
  have h := and_two x x h0 h1 h0 h1
  have e : bits .and .u64 x x = x := by
    obtain ⟨a, rfl⟩ : ∃ a : Nat, x = a := ⟨x.toNat, by omega⟩
    rw [and_nat a a (by omega) (by omega), Nat.and_self]
  rwa [e] at h
theorem or_zero (x : Int) (h0 : 0 ≤ x) (h1 : x < 1073741824) : bits .or .u64 (bits .andNot .u64 0 1073741823) x = x := by
  obtain ⟨a, rfl⟩ : ∃ a : Nat, x = a := ⟨x.toNat, by omega⟩
  have h := (bits_nat .u64 64 (by decide) wraps_u64 0 a (by decide) (by omega)).2
  have e : bits .andNot .u64 0 1073741823 = 0 := by decide
  rw [e]
  simpa using h

theorem nsec_any (B : Nat) (x : Int) (w : World) (hx0 : 0 ≤ x) (hx : x < 1073741824) (hc : w.cell? ⟨B, 0, none⟩ = some (.int .u64 x)) :
    Calls Yba.prog 19 #[.pointer (some ⟨B, 0, none⟩)] w fun e w' => e = .returned (.int .i32 x) ∧ w' = w := by
  have hm := and_mask x hx0 hx
  go_enter Yba.func19, Yba.ntmps19
  go_wp2
  go_ret
  exact ⟨rfl, rfl⟩

theorem sec_any (B : Nat) (x e0 : Int) (w : World) (hx0 : 0 ≤ x) (hx : x < 1073741824) (hc : w.cell? ⟨B, 0, none⟩ = some (.int .u64 x)) (hd : w.cell? ⟨B, 1, none⟩ = some (.int .i64 e0)) :
    Calls Yba.prog 18 #[.pointer (some ⟨B, 0, none⟩)] w fun e w' => e = .returned (.int .i64 e0) ∧ w' = w := by
  have hm := and_flag x hx0 hx
  go_enter Yba.func18, Yba.ntmps18
  go_wp2
  go_ret
  exact ⟨rfl, rfl⟩

/-- addSec, at a time without a monotonic reading, where the sum does not leave the range. -/
theorem addSec_any (B : Nat) (x e0 d : Int) (w : World) (hx0 : 0 ≤ x) (hx : x < 1073741824) (hc : w.cell? ⟨B, 0, none⟩ = some (.int .u64 x)) (hd : w.cell? ⟨B, 1, none⟩ = some (.int .i64 e0)) (hf : w.frozen? ⟨B, 1, none⟩ = false)
    (he : -9223372036854775808 ≤ e0 + d) (he' : e0 + d ≤ 9223372036854775807) :
    Calls Yba.prog 22 #[.pointer (some ⟨B, 0, none⟩), .int .i64 d] w fun e w' => e = .returned (.tuple #[]) ∧ w' = w.setCell ⟨B, 1, none⟩ (.int .i64 (e0 + d)) := by
  have hm := and_flag x hx0 hx
  by_cases hp : 0 < d
  · have hgt : e0 < e0 + d := by omega
    go_enter Yba.func22, Yba.ntmps22
    go_wp2
    go_end0
    exact ⟨rfl, rfl⟩
  · have hgt : ¬ e0 < e0 + d := by omega
    go_enter Yba.func22, Yba.ntmps22
    go_wp2
    go_end0
    exact ⟨rfl, rfl⟩
end Go.Proofs.Ybulkborg.Tm
