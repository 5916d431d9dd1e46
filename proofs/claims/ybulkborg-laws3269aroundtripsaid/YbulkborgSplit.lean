import Derived.Test.YbulkborgRows
import Derived.Test.YbulkborgLastPlain
import Derived.WalkKit
import Derived.WalkLawsBesides
import Derived.WalkSpells
import Derived.Deep.QuietTactic
import Derived.BigQuiet
namespace Go.Proofs.Ybulkborg.Sp
open Go.RowKit Go

theorem hide {p : Prop} (h : p) : Hid p := h
theorem ret_i64 {a b : Int} (h : a = b) : Ending.returned (.int .i64 a) = .returned (.int .i64 b) := by rw [h]

set_option maxHeartbeats 1000000 in
theorem last_str (s : ByteArray) (c : Nat) (hc : c < 256) (w : World) (hs : s.size ≤ maxLen) :
    Calls Yba.prog 21 #[.string s, .int .u8 c] w fun e w' => e = .returned (.int .i64 (lastTo s (UInt8.ofNat c) s.size)) ∧ w' = w := by
  unfold maxLen at hs
  go_enter Yba.func21, Yba.ntmps21
  go_wp2
  go_loop [5] (fun i => ∃ k : Nat, k ≤ s.size ∧ i = .int .i64 ((k : Int) - 1) ∧ Hid (lastTo s (UInt8.ofNat c) s.size = lastTo s (UInt8.ofNat c) k)) (fun i => (intOf i + 1).toNat)
  case atStart => exact ⟨s.size, Nat.le_refl _, rfl, rfl⟩
  case round =>
    obtain ⟨k, hk, rfl, HE⟩ := hrel
    rcases Nat.eq_zero_or_pos k with rfl | hpos
    · go_wp2
      go_ret
      exact ⟨ret_i64 (by rw [HE.out]; rfl), rfl⟩
    · obtain ⟨j, rfl⟩ : ∃ j, k = j + 1 := ⟨k - 1, by omega⟩
      rw [show (((j + 1 : Nat) : Int) - 1) = (j : Int) from by omega]
      have hj : j < s.size := by omega
      have hal := at_list s j hj
      have hbe := byte_eq s[j] c hc
      by_cases hit : s[j] = UInt8.ofNat c
      · have HH := hide (lastTo_hit s (UInt8.ofNat c) j (by rw [hal]; exact hit))
        have hb : ((s[j].toNat : Int) == (c : Int)) = true := by rw [hbe]; exact decide_eq_true hit
        clear hal hbe hit
        go_wp2
        go_ret
        exact ⟨ret_i64 (by rw [HE.out, HH.out]), rfl⟩
      · have HH := hide (lastTo_miss s (UInt8.ofNat c) j (by rw [hal]; exact hit))
        have hb : ((s[j].toNat : Int) == (c : Int)) = false := by rw [hbe]; exact decide_eq_false hit
        clear hal hbe hit
        go_wp2
        go_round
        case rel => exact ⟨j, by omega, by go_num, HE.out.trans HH.out⟩
        case measure => simp [intOf]

set_option maxHeartbeats 400000 in
theorem last_any (s : ByteArray) (c : Nat) (hc : c < 256) (w : World) (hs : s.size ≤ maxLen) :
    Calls Yba.prog 13 #[.string s, .int .u8 c] w fun e w' => e = .returned (.int .i64 (lastTo s (UInt8.ofNat c) s.size)) ∧ w' = w := by
  go_enter Yba.func13, Yba.ntmps13
  go_wp2_with fail
  refine (last_str s c hc _ hs).mono ?_
  rintro e w' ⟨rfl, rfl⟩
  go_wp2
  go_ret
  exact ⟨rfl, rfl⟩

/-- What the two functions give. -/
def splitV (s : ByteArray) : Value :=
  if lastTo s 93 s.size < lastTo s 58 s.size then .tuple #[.string (s.extract 0 (lastTo s 58 s.size).toNat), .string (s.extract ((lastTo s 58 s.size).toNat + 1) s.size), .bool true]
  else .tuple #[.string s, .string ⟨#[]⟩, .bool false]

theorem splitV_yes (s : ByteArray) (i : Nat) (h : lastTo s 58 s.size = i) (hlt : lastTo s 93 s.size < i) : splitV s = .tuple #[.string (s.extract 0 i), .string (s.extract (i + 1) s.size), .bool true] := by
  unfold splitV
  rw [h, if_pos hlt]
  rfl
theorem splitV_no (s : ByteArray) (h : ¬ lastTo s 93 s.size < lastTo s 58 s.size) : splitV s = .tuple #[.string s, .string ⟨#[]⟩, .bool false] := by
  unfold splitV
  rw [if_neg h]

set_option maxHeartbeats 1000000 in
theorem split_yes (s : ByteArray) (i : Nat) (w : World) (hs : s.size ≤ maxLen) (hi : lastTo s 58 s.size = i) (hlt : lastTo s 93 s.size < i) :
    Calls Yba.prog 7 #[.string s] w fun e w' => e = .returned (splitV s) ∧ ∃ q, w' = w.drewN q := by
  have h58 := last_any s 58 (by omega) w hs
  have h93 := last_any s 93 (by omega) w hs
  have b58 := (lastTo_bounds s 58 s.size).2
  have b93 := (lastTo_bounds s 93 s.size).1
  rw [show UInt8.ofNat 58 = 58 from rfl, hi] at h58
  rw [show UInt8.ofNat 93 = 93 from rfl] at h93
  rw [splitV_yes s i hi hlt]
  rw [hi] at b58
  have H58 := hide h58
  have H93 := hide h93
  unfold maxLen at hs
  clear h58 h93 hi
  generalize lastTo s 93 s.size = b at *
  go_enter Yba.func7, Yba.ntmps7
  go_wp2_with fail
  refine H58.out.mono ?_
  rintro e w' ⟨rfl, rfl⟩
  go_wp2_with fail
  refine H93.out.mono ?_
  rintro e w' ⟨rfl, rfl⟩
  go_wp2
  go_quiet (fail)
  go_wp2
  go_ret3
  exact ⟨rfl, _, rfl⟩

set_option maxHeartbeats 1000000 in
theorem split_no (s : ByteArray) (w : World) (hs : s.size ≤ maxLen) (hno : ¬ lastTo s 93 s.size < lastTo s 58 s.size) :
    Calls Yba.prog 7 #[.string s] w fun e w' => e = .returned (splitV s) ∧ ∃ q, w' = w.drewN q := by
  have h58 := last_any s 58 (by omega) w hs
  have h93 := last_any s 93 (by omega) w hs
  rw [show UInt8.ofNat 58 = 58 from rfl] at h58
  rw [show UInt8.ofNat 93 = 93 from rfl] at h93
  rw [splitV_no s hno]
  have H58 := hide h58
  have H93 := hide h93
  clear h58 h93
  generalize lastTo s 93 s.size = b at *
  generalize lastTo s 58 s.size = c at *
  go_enter Yba.func7, Yba.ntmps7
  go_wp2_with fail
  refine H58.out.mono ?_
  rintro e w' ⟨rfl, rfl⟩
  go_wp2_with fail
  refine H93.out.mono ?_
  rintro e w' ⟨rfl, rfl⟩
  go_wp2
  go_ret3
  exact ⟨rfl, 0, rfl⟩

theorem split_any (s : ByteArray) (w : World) (hs : s.size ≤ maxLen) :
    Calls Yba.prog 7 #[.string s] w fun e w' => e = .returned (splitV s) ∧ ∃ q, w' = w.drewN q := by
  by_cases h : lastTo s 93 s.size < lastTo s 58 s.size
  · obtain ⟨i, hi⟩ := Int.eq_ofNat_of_zero_le (show 0 ≤ lastTo s 58 s.size by have := (lastTo_bounds s 93 s.size).1; omega)
    exact split_yes s i w hs hi (by rw [← hi]; exact h)
  · exact split_no s w hs h
end Go.Proofs.Ybulkborg.Sp
