import Derived.Test.YbulkboqsFmtRpCopy
namespace Go.Proofs.YbulkboqsFmt.Rp
open Go.RowKit Go Go.Maps Go.Extern.Stop Go.Stop Go.Extern

theorem own_came {w : World} {b : Nat} {v : Value} {n : Nat} {xs : List Int} (h : w.ownsRow b 54 1 v n (I32 xs)) : ∃ a c, v = .slice a n c ∧ Came w a n xs := by
  have hl : xs.length = n := by simpa using h.1
  rcases h.2 with ⟨rfl, rfl⟩ | ⟨g, c, cur, rfl, hr⟩
  · exact ⟨none, 0, rfl, by omega, fun j hj => absurd hj (by omega)⟩
  · exact ⟨_, _, rfl, by omega, fun j hj => ⟨g, 0, rfl, lt_of_block hr.2.1, by rw [Nat.zero_add]; exact cell_own h j hj⟩⟩

theorem get_left (Z W : List Int) (len k : Nat) (hk : k < len) (hl : len ≤ Z.length) : (Z.take len ++ W).getD k 0 = Z.getD k 0 := by
  rw [List.getD_eq_getElem?_getD, List.getD_eq_getElem?_getD, List.getElem?_append_left (by simp; omega), List.getElem?_take, if_pos hk]
theorem get_right (Z W : List Int) (len j : Nat) (hl : len ≤ Z.length) : (Z.take len ++ W).getD (len + j) 0 = W.getD j 0 := by
  rw [List.getD_eq_getElem?_getD, List.getD_eq_getElem?_getD, List.getElem?_append_right (by simp; omega)]
  congr 2
  simp
  omega

set_option maxHeartbeats 2000000 in
theorem same_any (ao : Option Addr) (co : Nat) (a : Option Addr) (len cap : Nat) (aw : Option Addr) (m cw : Nat) (Z W : List Int) (w : World) (hl : len ≤ 1024) (hm : m ≤ 1024)
    (hO : Came w ao (len + m) (Z.take len ++ W)) (hD : Came w a len Z) (hW : Came w aw m W) :
    Calls Ybaf.prog 8 #[.slice ao (len + m) co, .slice a len cap, .slice aw m cw] w fun e w' => e = .returned (.bool true) ∧ ∃ q, w' = w.drewN q := by
  go_enter Ybaf.func8, Ybaf.ntmps8
  go_wp2
  go_loopw [7] (fun i wr => ∃ k : Nat, k ≤ len ∧ i = .int .i64 k ∧ ∃ q, wr = w.drewN q) (fun i _ => len - (intOf i).toNat)
  case atStart => exact ⟨0, Nat.zero_le _, rfl, 0, rfl⟩
  case round =>
    obtain ⟨k, hk, rfl, q, rfl⟩ := hrel
    by_cases hlt : k < len
    · obtain ⟨b, off, rfl, _, c1⟩ := hD.2 k hlt
      obtain ⟨b', off', rfl, _, c2⟩ := hO.2 k (by omega)
      have e := get_left Z W len k hlt hD.1
      rw [e] at c2
      clear e
      generalize Z.getD k 0 = r at *
      go_wp2
      go_quiet (fail)
      go_wp2
      go_roundw
      case rel => exact ⟨k + 1, by omega, by go_num, _, rfl⟩
      case measure => simp [intOf]; omega
    · obtain rfl : len = k := by omega
      go_wp2
      go_loopw [8] (fun i wr => ∃ k : Nat, k ≤ m ∧ i = .int .i64 k ∧ ∃ q, wr = w.drewN q) (fun i _ => m - (intOf i).toNat)
      case atStart => exact ⟨0, Nat.zero_le _, rfl, q, rfl⟩
      case round =>
        obtain ⟨j, hj, rfl, q', rfl⟩ := hrel
        by_cases hlt' : j < m
        · obtain ⟨b, off, rfl, _, c1⟩ := hW.2 j hlt'
          obtain ⟨b', off', rfl, _, c2⟩ := hO.2 (len + j) (by omega)
          have e := get_right Z W len j hD.1
          rw [e] at c2
          clear e
          generalize W.getD j 0 = r at *
          go_wp2
          go_quiet (fail)
          go_wp2
          go_roundw
          case rel => exact ⟨j + 1, by omega, by go_num, _, rfl⟩
          case measure => simp [intOf]; omega
        · go_wp2
          go_ret
          exact ⟨rfl, _, rfl⟩
end Go.Proofs.YbulkboqsFmt.Rp
