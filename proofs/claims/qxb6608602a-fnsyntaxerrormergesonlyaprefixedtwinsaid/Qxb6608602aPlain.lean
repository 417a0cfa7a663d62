import Derived.Test.Qxb6608602aWalks
import Derived.Lib.Strings
namespace Go.Proofs.Qxb6608602a

theorem toList_data (s : ByteArray) : s.toList = s.data.toList := ByteArray.toList_eq s
theorem ext_list {a b : ByteArray} (h : a.data.toList = b.data.toList) : a = b := by
  cases a; cases b; simp at h; simp [h]
theorem data_app (a b : ByteArray) : (a ++ b).data.toList = a.data.toList ++ b.data.toList := by simp
theorem data_ext (a : ByteArray) (i j : Nat) : (a.extract i j).data.toList = (a.data.toList.drop i).take (j - i) := Lib.extract_data a i j
theorem hasP_iff (s : ByteArray) : hasP s = true ↔ s.data.toList.take 6 = [121, 97, 109, 108, 58, 32] := by
  unfold hasP
  rw [Bool.and_eq_true, decide_eq_true_iff, beq_iff_eq, toList_data, data_ext, List.drop_zero, Nat.sub_zero]
  constructor
  · exact fun h => h.2
  · intro h
    refine ⟨?_, h⟩
    have := congrArg List.length h
    simp at this
    omega
theorem strip_data (s : ByteArray) : (strip s).data.toList = if s.data.toList.take 6 = [121, 97, 109, 108, 58, 32] then s.data.toList.drop 6 else s.data.toList := by
  unfold strip
  by_cases h : hasP s = true
  · rw [if_pos h, if_pos ((hasP_iff s).1 h), data_ext, List.take_of_length_le (by simp)]
  · rw [if_neg h, if_neg (fun c => h ((hasP_iff s).2 c))]
theorem strip_pre (s t : ByteArray) : strip (⟨#[121, 97, 109, 108, 58, 32]⟩ ++ s ++ t) = s ++ t := by
  apply ext_list
  rw [strip_data, data_app, data_app, data_app]
  rw [if_pos (by simp)]
  simp
theorem strip_app (s t : ByteArray) (h : 6 ≤ s.size) : strip (s ++ t) = strip s ++ t := by
  apply ext_list
  have hl : 6 ≤ s.data.toList.length := by simpa using h
  rw [strip_data, data_app, data_app, strip_data]
  rw [List.take_append_of_le_length hl, List.drop_append_of_le_length hl]
  split <;> rfl
theorem size_lit : (ByteArray.mk #[121, 97, 109, 108, 58, 32]).size = 6 := rfl
theorem strip_size (s : ByteArray) : (strip s).size ≤ s.size := by
  unfold strip; split
  · simp
  · exact Nat.le_refl _
end Go.Proofs.Qxb6608602a
