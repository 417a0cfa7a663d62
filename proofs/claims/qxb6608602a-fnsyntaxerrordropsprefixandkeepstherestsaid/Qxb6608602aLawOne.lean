import Derived.Test.Qxb6608602aPlain
namespace Go.Proofs.Qxb6608602a
open Go.RowKit
theorem walk3 (a0 : ByteArray) (a1 : ByteArray) (w0 : a0.size ≤ maxLen) (w1 : a1.size ≤ maxLen) (w : World) :
    Calls Try.prog 3 #[.string a0, .string a1] w fun e w' => e = .returned (.bool true) ∧ Grown w w' := by
  unfold maxLen at w0 w1
  by_cases h0 : 65536 < (a0.size : Int)
  · go_enter Try.func3, Try.ntmps3
    go_wp2_with (go_at_call 5; go_in)
    all_goals go_ret
    all_goals exact ⟨rfl, Grown.refl _⟩
  by_cases h1 : 65536 < (a1.size : Int)
  · go_enter Try.func3, Try.ntmps3
    go_wp2_with (go_at_call 5; go_in)
    all_goals go_ret
    all_goals exact ⟨rfl, Grown.refl _⟩
  have e1 := strip_pre a0 a1
  by_cases h6 : 6 ≤ (a0.size : Int)
  · have e2 := strip_app a0 a1 (by omega)
    have e3 := strip_size a0
    go_enter Try.func3, Try.ntmps3
    go_wp2_with (first
      | (go_at_call 5; go_in)
      | (go_at_call 6; refine (text_any _ _ ?hs).mono ?_; (case hs => simp only [maxLen, ByteArray.size_append, size_lit]; omega); rintro e w' ⟨rfl, rfl⟩))
    go_ret
    exact ⟨rfl, by repeat (first | exact Grown.refl _ | apply Grown.drew | apply Grown.alloc)⟩
  · go_enter Try.func3, Try.ntmps3
    go_wp2_with (first
      | (go_at_call 5; go_in)
      | (go_at_call 6; refine (text_any _ _ ?hs).mono ?_; (case hs => simp only [maxLen, ByteArray.size_append, size_lit]; omega); rintro e w' ⟨rfl, rfl⟩))
    go_ret
    exact ⟨rfl, by repeat (first | exact Grown.refl _ | apply Grown.drew | apply Grown.alloc)⟩
end Go.Proofs.Qxb6608602a
