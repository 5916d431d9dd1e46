import Derived.Test.YbulkborgBuild
import Derived.Test.YbulkborgRoundPlain
namespace Go.Proofs.Ybulkborg.Sp
open Go.RowKit Go

set_option maxHeartbeats 1000000 in
theorem round_long (a : Option Addr) (len cap : Nat) (w : World) (hl : 4096 < len) : Calls Yba.prog 4 #[.slice a len cap] w fun e w' => e = .returned (.bool true) ∧ Below w.heap.size w w' := by
  go_enter Yba.func4, Yba.ntmps4
  go_wp2
  go_ret
  exact ⟨rfl, Below.refl _ _⟩

set_option maxHeartbeats 2000000 in
theorem round_any (a : Option Addr) (len cap : Nat) (Z : List Int) (w : World) (hl : len ≤ 4096) (c : Came w a len Z) : Calls Yba.prog 4 #[.slice a len cap] w fun e w' => e = .returned (.bool true) ∧ Below w.heap.size w w' := by
  have HB := hide (build_any a len cap Z w hl c)
  clear c
  go_enter Yba.func4, Yba.ntmps4
  go_wp2_with fail
  refine HB.out.mono ?_
  rintro e w1 ⟨s, rfl, hs, hb⟩
  have HS := hide (fun w => split_any s w (by unfold maxLen; omega))
  clear HB
  by_cases h : lastTo s 93 s.size < lastTo s 58 s.size
  · obtain ⟨i, hi⟩ := Int.eq_ofNat_of_zero_le (show 0 ≤ lastTo s 58 s.size by have := (lastTo_bounds s 93 s.size).1; omega)
    have hlt : lastTo s 93 s.size < i := by rw [← hi]; exact h
    rw [splitV_yes s i hi hlt] at HS
    have HI := hide hi
    have HLT := hide hlt
    have hil : i < s.size := by have := (lastTo_bounds s 58 s.size).2; omega
    clear h hi hlt
    go_wp2_with fail
    refine (HS.out _).mono ?_
    rintro e w2 ⟨rfl, q, rfl⟩
    clear HS
    have hrj := rejoin s i hil (lastTo_at s 58 s.size i HI.out)
    have hpc := port_clean s i HI.out HLT.out
    have hps : (s.extract (i + 1) s.size).size ≤ 4096 := by simp; omega
    have hhs : (s.extract 0 i).size ≤ 4096 := by simp; omega
    generalize s.extract 0 i = hh at *
    generalize s.extract (i + 1) s.size = p at *
    have HPC := hide hpc
    have hrj' : (!((hh ++ ⟨#[58]⟩ ++ p).toList == s.toList)) = false := by rw [hrj]; rfl
    clear hpc HI HLT hrj
    go_wp2
    go_loopw [7] (fun i wr => ∃ k : Nat, k ≤ p.size ∧ i = .int .i64 k ∧ wr = w1.drewN q) (fun i _ => p.size - (intOf i).toNat)
    case atStart => exact ⟨0, Nat.zero_le _, rfl, rfl⟩
    case round =>
      obtain ⟨k, hk, rfl, rfl⟩ := hrel
      by_cases hkp : k < p.size
      · obtain ⟨n1, n2⟩ := HPC.out k hkp
        have e58 := byte_eq p[k] 58 (by omega)
        have e93 := byte_eq p[k] 93 (by omega)
        have f1 : ((p[k].toNat : Int) == 58) = false := by rw [decide_eq_false (by exact n1)] at e58; exact e58
        have f2 : ((p[k].toNat : Int) == 93) = false := by rw [decide_eq_false (by exact n2)] at e93; exact e93
        clear n1 n2 e58 e93
        go_wp2
        go_roundw
        case rel => exact ⟨k + 1, by omega, by go_num, (by first | rfl | trivial)⟩
        case measure => simp [intOf]; omega
      · go_wp2
        go_ret
        exact ⟨rfl, below_drewN hb q⟩
  · rw [splitV_no s h] at HS
    have HNO := hide h
    clear h
    go_wp2_with fail
    refine (HS.out _).mono ?_
    rintro e w2 ⟨rfl, q, rfl⟩
    clear HS
    go_wp2_with fail
    go_loopw [8] (fun i wr => ∃ k : Nat, k ≤ s.size ∧ i = .int .i64 ((k : Int) - 1) ∧ wr = w1.drewN q ∧ Hid (lastTo s 58 s.size = lastTo s 58 k) ∧ Hid (lastTo s 93 s.size = lastTo s 93 k)) (fun i _ => (intOf i + 1).toNat)
    case atStart => exact ⟨s.size, Nat.le_refl _, rfl, rfl, rfl, rfl⟩
    case round =>
      obtain ⟨k, hk, rfl, rfl, E58, E93⟩ := hrel
      rcases Nat.eq_zero_or_pos k with rfl | hpos
      · go_wp2
        go_ret
        exact ⟨rfl, below_drewN hb q⟩
      · obtain ⟨j, rfl⟩ : ∃ j, k = j + 1 := ⟨k - 1, by omega⟩
        rw [show (((j + 1 : Nat) : Int) - 1) = (j : Int) from by omega]
        have hj : j < s.size := by omega
        have S58 := hide (lastTo_step s 58 j hj)
        have S93 := hide (lastTo_step s 93 j hj)
        have e58 := byte_eq s[j] 58 (by omega)
        have e93 := byte_eq s[j] 93 (by omega)
        rw [show UInt8.ofNat 58 = 58 from rfl] at e58
        rw [show UInt8.ofNat 93 = 93 from rfl] at e93
        by_cases h2 : s[j] = 93
        · have f2 : ((s[j].toNat : Int) == 93) = true := by rw [decide_eq_true h2] at e93; exact e93
          clear e58 e93 h2
          go_wp2
          go_ret
          exact ⟨rfl, below_drewN hb q⟩
        · have f2 : ((s[j].toNat : Int) == 93) = false := by rw [decide_eq_false h2] at e93; exact e93
          by_cases h1 : s[j] = 58
          · exfalso
            have hno := HNO.out
            rw [E58.out, E93.out, S58.out, S93.out, if_pos h1, if_neg h2] at hno
            have := (lastTo_bounds s 93 j).2
            omega
          · have f1 : ((s[j].toNat : Int) == 58) = false := by rw [decide_eq_false h1] at e58; exact e58
            have H1 := hide h1
            have H2 := hide h2
            clear e58 e93 h1 h2
            go_wp2
            go_roundw
            case rel => exact ⟨j, by omega, by go_num, (by first | rfl | trivial), by rw [Hid, E58.out, S58.out, if_neg H1.out], by rw [Hid, E93.out, S93.out, if_neg H2.out]⟩
            case measure => simp [intOf]
end Go.Proofs.Ybulkborg.Sp
