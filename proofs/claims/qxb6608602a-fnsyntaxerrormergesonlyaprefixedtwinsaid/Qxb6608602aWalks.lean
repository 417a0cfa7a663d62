import Derived.Test.Qxb6608602aRows
import Derived.WalkKit
import Derived.WalkSpells
import Derived.WalkLawsBesides
namespace Go.Proofs.Qxb6608602a
open Go.RowKit

/-- does the text open with the six bytes? -/
def hasP (s : ByteArray) : Bool := decide (6 ≤ s.size) && ((s.extract 0 6).toList == [121, 97, 109, 108, 58, 32])
/-- the text without them -/
def strip (s : ByteArray) : ByteArray := if hasP s = true then s.extract 6 s.size else s

theorem strip_yes {s : ByteArray} (h1 : 6 ≤ s.size) (h2 : ((s.extract 0 6).toList == [121, 97, 109, 108, 58, 32]) = true) : strip s = s.extract 6 s.size := by
  unfold strip hasP; rw [if_pos]; simp only [h1, h2, decide_true, Bool.and_self]
theorem strip_no {s : ByteArray} (h2 : ((s.extract 0 6).toList == [121, 97, 109, 108, 58, 32]) = false) : strip s = s := by
  unfold strip hasP; rw [if_neg]; simp only [h2, Bool.and_false]; decide
theorem strip_short {s : ByteArray} (h2 : s.size < 6) : strip s = s := by
  unfold strip hasP; rw [if_neg]; simp only [show ¬ 6 ≤ s.size by omega, decide_false, Bool.false_and]; decide

theorem new_any (s : ByteArray) (w : World) :
    Calls Try.prog 10 #[.string s] w fun e w' => e = .returned (.iface 31 (.pointer (some ⟨w.heap.size, 0, none⟩))) ∧ w' = w.alloc (.cells #[.string s] 33) := by
  go_enter Try.func10, Try.ntmps10
  go_wp2
  go_ret
  exact ⟨rfl, rfl⟩

theorem err_any (b : Nat) (s : ByteArray) (w : World) (h : w.cell? ⟨b, 0, none⟩ = some (.string s)) :
    Calls Try.prog 29 #[.pointer (some ⟨b, 0, none⟩)] w fun e w' => e = .returned (.string s) ∧ w' = w := by
  go_enter Try.func29, Try.ntmps29
  go_wp2
  go_ret
  exact ⟨rfl, rfl⟩

theorem ret_str {a b : ByteArray} (h : a = b) : Ending.returned (.string a) = .returned (.string b) := by rw [h]

theorem trim_any (s : ByteArray) (w : World) (hs : s.size ≤ maxLen) :
    Calls Try.prog 11 #[.string s, .string ⟨#[121, 97, 109, 108, 58, 32]⟩] w fun e w' => e = .returned (.string (strip s)) ∧ w' = w := by
  unfold maxLen at hs
  go_enter Try.func11, Try.ntmps11
  go_wp2
  all_goals go_ret
  · exact ⟨ret_str (strip_yes (by omega) ‹_›).symm, rfl⟩
  · exact ⟨ret_str (strip_no ‹_›).symm, rfl⟩
  · exact ⟨ret_str (strip_short (by omega)).symm, rfl⟩

theorem meth_err (a : Addr) (w : World) : (method 150 31 (.pointer (some a)) "Error").run Try.prog w = .ok (29, .pointer (some a)) w := by kernel_rfl

theorem syn_any (b : Nat) (s : ByteArray) (w : World) (hs : s.size ≤ maxLen) (h : w.cell? ⟨b, 0, none⟩ = some (.string s)) :
    Calls Try.prog 9 #[.iface 31 (.pointer (some ⟨b, 0, none⟩))] w fun e w' => e = .returned (.iface 31 (.pointer (some ⟨w.heap.size, 0, none⟩))) ∧ w' = w.alloc (.cells #[.string (strip s)] 33) := by
  have hm := meth_err
  go_enter Try.func9, Try.ntmps9
  go_wp2_with (first
    | (go_at_call 29; refine (err_any _ s _ h).mono ?_; rintro e w' ⟨rfl, rfl⟩)
    | (go_at_call 11; refine (trim_any s _ hs).mono ?_; rintro e w' ⟨rfl, rfl⟩)
    | (go_at_call 10; refine (new_any _ _).mono ?_; rintro e w' ⟨rfl, rfl⟩))
  go_ret
  exact ⟨rfl, rfl⟩

theorem text_any (s : ByteArray) (w : World) (hs : s.size ≤ maxLen) :
    Calls Try.prog 6 #[.string s] w fun e w' => e = .returned (.tuple #[.string (strip s), .bool true]) ∧ w' = (w.alloc (.cells #[.string s] 33)).alloc (.cells #[.string (strip s)] 33) := by
  have hm := meth_err
  go_enter Try.func6, Try.ntmps6
  go_wp2_with (first
    | (go_at_call 10; refine (new_any _ _).mono ?_; rintro e w' ⟨rfl, rfl⟩)
    | (go_at_call 9; refine (syn_any _ s _ hs (by simp [go_sem])).mono ?_; rintro e w' ⟨rfl, rfl⟩)
    | (go_at_call 29; refine (err_any _ (strip s) _ (by simp [go_sem])).mono ?_; rintro e w' ⟨rfl, rfl⟩))
  go_ret2
  exact ⟨rfl, rfl⟩
end Go.Proofs.Qxb6608602a
