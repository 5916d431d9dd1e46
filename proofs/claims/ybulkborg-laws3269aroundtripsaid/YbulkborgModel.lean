import Derived.Test.YbulkborgSplit
namespace Go.Proofs.Ybulkborg.Sp
open Go.RowKit Go

/-- One step of the scan. -/
theorem lastTo_step (s : ByteArray) (c : UInt8) (k : Nat) (hk : k < s.size) : lastTo s c (k + 1) = if s[k] = c then (k : Int) else lastTo s c k := by
  rw [lastTo, at_list s k hk]

set_option maxHeartbeats 2000000 in
theorem model_yes (s : ByteArray) (i : Nat) (w : World) (hs : s.size ≤ maxLen) (hi : lastTo s 58 s.size = i) (hlt : lastTo s 93 s.size < i) :
    Calls Yba.prog 8 #[.string s] w fun e w' => e = .returned (splitV s) ∧ ∃ q, w' = w.drewN q := by
  rw [splitV_yes s i hi hlt]
  have HI := hide hi
  have HLT := hide hlt
  have b58 := (lastTo_bounds s 58 s.size).2
  rw [hi] at b58
  unfold maxLen at hs
  clear hi hlt
  go_enter Yba.func8, Yba.ntmps8
  go_wp2
  go_loop [5, 6, 7] (fun c b i => ∃ k : Nat, k ≤ s.size ∧ i = .int .i64 k ∧ c = .int .i64 (lastTo s 58 k) ∧ b = .int .i64 (lastTo s 93 k)) (fun _ _ i => s.size - (intOf i).toNat)
  case atStart => exact ⟨0, Nat.zero_le _, rfl, rfl, rfl⟩
  case round =>
    obtain ⟨k, hk, rfl, rfl, rfl⟩ := hrel
    by_cases hlt : k < s.size
    · have S58 := hide (lastTo_step s 58 k hlt)
      have S93 := hide (lastTo_step s 93 k hlt)
      have e58 := byte_eq s[k] 58 (by omega)
      have e93 := byte_eq s[k] 93 (by omega)
      rw [show UInt8.ofNat 58 = 58 from rfl] at e58
      rw [show UInt8.ofNat 93 = 93 from rfl] at e93
      have E58 := hide e58
      have E93 := hide e93
      clear e58 e93
      by_cases h1 : s[k] = 58
      · have f1 : ((s[k].toNat : Int) == 58) = true := by have := E58.out; rw [decide_eq_true h1] at this; exact this
        have f2 : ((s[k].toNat : Int) == 93) = false := by have := E93.out; rw [decide_eq_false (by rw [h1]; decide)] at this; exact this
        have H1 := hide h1
        clear h1
        go_wp2
        go_round
        case rel => exact ⟨k + 1, by omega, by go_num, by rw [S58.out, if_pos H1.out], by rw [S93.out, if_neg (by rw [H1.out]; decide)]⟩
        case measure => simp [intOf]; omega
      · have f1 : ((s[k].toNat : Int) == 58) = false := by have := E58.out; rw [decide_eq_false h1] at this; exact this
        by_cases h2 : s[k] = 93
        · have f2 : ((s[k].toNat : Int) == 93) = true := by have := E93.out; rw [decide_eq_true h2] at this; exact this
          have H1 := hide h1
          have H2 := hide h2
          clear h1 h2
          go_wp2
          go_round
          case rel => exact ⟨k + 1, by omega, by go_num, by rw [S58.out, if_neg H1.out], by rw [S93.out, if_pos H2.out]⟩
          case measure => simp [intOf]; omega
        · have f2 : ((s[k].toNat : Int) == 93) = false := by have := E93.out; rw [decide_eq_false h2] at this; exact this
          have H1 := hide h1
          have H2 := hide h2
          clear h1 h2
          go_wp2
          go_round
          case rel => exact ⟨k + 1, by omega, by go_num, by rw [S58.out, if_neg H1.out], by rw [S93.out, if_neg H2.out]⟩
          case measure => simp [intOf]; omega
    · obtain rfl : k = s.size := by omega
      rw [HI.out]
      have hl := HLT.out
      have hb := (lastTo_bounds s 93 s.size).1
      generalize lastTo s 93 s.size = b at *
      go_wp2
      go_quiet (fail)
      go_wp2
      go_ret3
      exact ⟨rfl, _, rfl⟩

set_option maxHeartbeats 2000000 in
theorem model_no (s : ByteArray) (w : World) (hs : s.size ≤ maxLen) (hno : ¬ lastTo s 93 s.size < lastTo s 58 s.size) :
    Calls Yba.prog 8 #[.string s] w fun e w' => e = .returned (splitV s) ∧ ∃ q, w' = w.drewN q := by
  rw [splitV_no s hno]
  have HNO := hide hno
  unfold maxLen at hs
  clear hno
  go_enter Yba.func8, Yba.ntmps8
  go_wp2
  go_loop [5, 6, 7] (fun c b i => ∃ k : Nat, k ≤ s.size ∧ i = .int .i64 k ∧ c = .int .i64 (lastTo s 58 k) ∧ b = .int .i64 (lastTo s 93 k)) (fun _ _ i => s.size - (intOf i).toNat)
  case atStart => exact ⟨0, Nat.zero_le _, rfl, rfl, rfl⟩
  case round =>
    obtain ⟨k, hk, rfl, rfl, rfl⟩ := hrel
    by_cases hlt : k < s.size
    · have S58 := hide (lastTo_step s 58 k hlt)
      have S93 := hide (lastTo_step s 93 k hlt)
      have e58 := byte_eq s[k] 58 (by omega)
      have e93 := byte_eq s[k] 93 (by omega)
      rw [show UInt8.ofNat 58 = 58 from rfl] at e58
      rw [show UInt8.ofNat 93 = 93 from rfl] at e93
      have E58 := hide e58
      have E93 := hide e93
      clear e58 e93
      by_cases h1 : s[k] = 58
      · have f1 : ((s[k].toNat : Int) == 58) = true := by have := E58.out; rw [decide_eq_true h1] at this; exact this
        have f2 : ((s[k].toNat : Int) == 93) = false := by have := E93.out; rw [decide_eq_false (by rw [h1]; decide)] at this; exact this
        have H1 := hide h1
        clear h1
        go_wp2
        go_round
        case rel => exact ⟨k + 1, by omega, by go_num, by rw [S58.out, if_pos H1.out], by rw [S93.out, if_neg (by rw [H1.out]; decide)]⟩
        case measure => simp [intOf]; omega
      · have f1 : ((s[k].toNat : Int) == 58) = false := by have := E58.out; rw [decide_eq_false h1] at this; exact this
        by_cases h2 : s[k] = 93
        · have f2 : ((s[k].toNat : Int) == 93) = true := by have := E93.out; rw [decide_eq_true h2] at this; exact this
          have H1 := hide h1
          have H2 := hide h2
          clear h1 h2
          go_wp2
          go_round
          case rel => exact ⟨k + 1, by omega, by go_num, by rw [S58.out, if_neg H1.out], by rw [S93.out, if_pos H2.out]⟩
          case measure => simp [intOf]; omega
        · have f2 : ((s[k].toNat : Int) == 93) = false := by have := E93.out; rw [decide_eq_false h2] at this; exact this
          have H1 := hide h1
          have H2 := hide h2
          clear h1 h2
          go_wp2
          go_round
          case rel => exact ⟨k + 1, by omega, by go_num, by rw [S58.out, if_neg H1.out], by rw [S93.out, if_neg H2.out]⟩
          case measure => simp [intOf]; omega
    · obtain rfl : k = s.size := by omega
      have hl := HNO.out
      generalize lastTo s 93 s.size = b at *
      generalize lastTo s 58 s.size = c at *
      go_wp2
      go_ret3
      exact ⟨rfl, 0, rfl⟩

theorem model_any (s : ByteArray) (w : World) (hs : s.size ≤ maxLen) :
    Calls Yba.prog 8 #[.string s] w fun e w' => e = .returned (splitV s) ∧ ∃ q, w' = w.drewN q := by
  by_cases h : lastTo s 93 s.size < lastTo s 58 s.size
  · obtain ⟨i, hi⟩ := Int.eq_ofNat_of_zero_le (show 0 ≤ lastTo s 58 s.size by have := (lastTo_bounds s 93 s.size).1; omega)
    exact model_yes s i w hs hi (by rw [← hi]; exact h)
  · exact model_no s w hs h

/-- Three results. -/
theorem splitV_form (s : ByteArray) : ∃ (h p : ByteArray) (ok : Bool), splitV s = .tuple #[.string h, .string p, .bool ok] := by
  unfold splitV
  split
  · exact ⟨_, _, _, rfl⟩
  · exact ⟨_, _, _, rfl⟩

theorem grown_drewN (w : World) (q : Nat) : Grown w (w.drewN q) := Grown.refl w

set_option maxHeartbeats 1000000 in
theorem amodel_any (s : ByteArray) (w : World) (hs : s.size ≤ maxLen) : Calls Yba.prog 3 #[.string s] w fun e w' => e = .returned (.bool true) ∧ ∃ q, w' = w.drewN q := by
  obtain ⟨h, p, ok, e⟩ := splitV_form s
  have H1 := hide (fun w => split_any s w hs)
  have H2 := hide (fun w => model_any s w hs)
  rw [e] at H1 H2
  clear e
  by_cases hl : 1048576 < s.size
  · go_enter Yba.func3, Yba.ntmps3
    go_wp2
    go_ret
    exact ⟨rfl, 0, rfl⟩
  · unfold maxLen at hs
    go_enter Yba.func3, Yba.ntmps3
    go_wp2_with fail
    refine (H1.out _).mono ?_
    rintro e w' ⟨rfl, q, rfl⟩
    go_wp2_with fail
    refine (H2.out _).mono ?_
    rintro e w' ⟨rfl, q', rfl⟩
    go_wp2
    go_ret
    exact ⟨rfl, _, rfl⟩
end Go.Proofs.Ybulkborg.Sp
