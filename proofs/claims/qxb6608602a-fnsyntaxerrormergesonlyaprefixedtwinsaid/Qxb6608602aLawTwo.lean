import Derived.Test.Qxb6608602aPlainTwo
namespace Go.Proofs.Qxb6608602a
open Go.RowKit

theorem grown_drewN {W w' : World} (h : Grown W w') (n : Nat) : Grown W (w'.drewN n) := h

set_option maxHeartbeats 4000000 in
/-- the way on which both texts are within the bounds; the five tests as facts -/
theorem walk4in (a0 : ByteArray) (a1 : ByteArray) (h0 : ¬ 65536 < (a0.size : Int)) (h1 : ¬ 65536 < (a1.size : Int)) (w : World) (q1 q2 q3 p0 p1 r : Bool)
    (hq1 : (a0.toList == a1.toList) = q1) (hq2 : (a0.toList == (⟨#[121, 97, 109, 108, 58, 32]⟩ ++ a1 : ByteArray).toList) = q2)
    (hq3 : (a1.toList == (⟨#[121, 97, 109, 108, 58, 32]⟩ ++ a0 : ByteArray).toList) = q3)
    (hp0 : hasPre a0 ⟨#[121, 97, 109, 108, 58, 32]⟩ = p0) (hp1 : hasPre a1 ⟨#[121, 97, 109, 108, 58, 32]⟩ = p1)
    (hr : ((strip a0).toList == (strip a1).toList) = r) (hfin : Hid (r = (q1 || (q2 && !p1) || (q3 && !p0)))) :
    Calls Try.prog 4 #[.string a0, .string a1] w fun e w' => e = .returned (.bool true) ∧ Grown w w' := by
  have e6 := size_lit
  have F := hfin.out
  clear hfin
  cases q1 <;> cases q2 <;> cases q3 <;> cases p0 <;> cases p1 <;> simp only [Bool.and_true, Bool.and_false, Bool.or_true, Bool.or_false, Bool.not_true, Bool.not_false] at F <;> subst F
  all_goals
    go_enter Try.func4, Try.ntmps4
    go_wp2_with (first
      | (go_at_call 7; go_in)
      | (go_at_call 6; refine (text_any _ _ ?hs).mono ?_; (case hs => simp only [maxLen]; omega); rintro e w' ⟨rfl, rfl⟩)
      | (go_at_call 8; refine (zzhas_any _ _ _ ?hs ?hp).mono ?_; (case hs => simp only [maxLen]; omega); (case hp => decide); rintro e w' ⟨rfl, n, rfl⟩))
    all_goals go_ret
    all_goals exact ⟨rfl, by repeat (first | exact Grown.refl _ | apply grown_drewN | apply Grown.alloc)⟩

theorem walk4 (a0 : ByteArray) (a1 : ByteArray) (w0 : a0.size ≤ maxLen) (w1 : a1.size ≤ maxLen) (w : World) :
    Calls Try.prog 4 #[.string a0, .string a1] w fun e w' => e = .returned (.bool true) ∧ Grown w w' := by
  unfold maxLen at w0 w1
  by_cases h0 : 65536 < (a0.size : Int)
  · go_enter Try.func4, Try.ntmps4
    go_wp2_with (go_at_call 7; go_in)
    all_goals go_ret
    all_goals exact ⟨rfl, Grown.refl _⟩
  by_cases h1 : 65536 < (a1.size : Int)
  · go_enter Try.func4, Try.ntmps4
    go_wp2_with (go_at_call 7; go_in)
    all_goals go_ret
    all_goals exact ⟨rfl, Grown.refl _⟩
  refine walk4in a0 a1 h0 h1 w _ _ _ _ _ _ rfl rfl rfl rfl rfl rfl (plain4 a0 a1)
end Go.Proofs.Qxb6608602a
