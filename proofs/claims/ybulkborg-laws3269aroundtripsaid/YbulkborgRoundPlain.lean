import Derived.Test.YbulkborgLastPlain
import Derived.Lib.IndexBytes
namespace Go.Proofs.Ybulkborg.Sp
open Go

theorem lastTo_at (s : ByteArray) (c : UInt8) : ∀ (k i : Nat), lastTo s c k = i → s.data.toList.getD i 0 = c := by
  intro k
  induction k with
  | zero => intro i h; simp [lastTo] at h
  | succ k ih =>
    intro i h
    by_cases hit : s.data.toList.getD k 0 = c
    · rw [lastTo_hit s c k hit] at h
      have : k = i := by omega
      rw [← this]; exact hit
    · rw [lastTo_miss s c k hit] at h
      exact ih i h
theorem lastTo_past (s : ByteArray) (c : UInt8) : ∀ (k j : Nat), j < k → lastTo s c k < j → s.data.toList.getD j 0 ≠ c := by
  intro k
  induction k with
  | zero => intro j h; omega
  | succ k ih =>
    intro j hj hlt
    by_cases hit : s.data.toList.getD k 0 = c
    · rw [lastTo_hit s c k hit] at hlt
      omega
    · rw [lastTo_miss s c k hit] at hlt
      by_cases e : j = k
      · rw [e]; exact hit
      · exact ih j (by omega) hlt

theorem rejoin (s : ByteArray) (i : Nat) (hi : i < s.size) (h : s.data.toList.getD i 0 = 58) : ((s.extract 0 i ++ ⟨#[58]⟩ ++ s.extract (i + 1) s.size).toList == s.toList) = true := by
  have hl : i < s.data.toList.length := by simpa using hi
  have e : s.data.toList[i] = 58 := by
    simpa [List.getD_eq_getElem?_getD, List.getElem?_eq_getElem hl] using h
  rw [beq_iff_eq, Lib.toList_data, Lib.toList_data, ByteArray.data_append, ByteArray.data_append, Array.toList_append, Array.toList_append, Lib.extract_data, Lib.extract_to_end]
  show _ ++ [58] ++ _ = _
  rw [List.drop_zero, Nat.sub_zero, ← e, List.append_assoc, List.singleton_append, ← List.drop_eq_getElem_cons hl, List.take_append_drop]

/-- The port holds neither sign. -/
theorem port_clean (s : ByteArray) (i : Nat) (hi : lastTo s 58 s.size = i) (hlt : lastTo s 93 s.size < i) : ∀ j (h : j < (s.extract (i + 1) s.size).size), (s.extract (i + 1) s.size)[j] ≠ 58 ∧ (s.extract (i + 1) s.size)[j] ≠ 93 := by
  intro j h
  have hsz : (s.extract (i + 1) s.size).size = s.size - (i + 1) := by simp
  have hj : i + 1 + j < s.size := by omega
  have e : (s.extract (i + 1) s.size)[j] = s.data.toList.getD (i + 1 + j) 0 := by
    rw [← at_list _ j h, Lib.extract_to_end, List.getD_eq_getElem?_getD, List.getElem?_drop, ← List.getD_eq_getElem?_getD]
  rw [e]
  exact ⟨lastTo_past s 58 s.size _ hj (by rw [hi]; omega), lastTo_past s 93 s.size _ hj (by omega)⟩
end Go.Proofs.Ybulkborg.Sp
