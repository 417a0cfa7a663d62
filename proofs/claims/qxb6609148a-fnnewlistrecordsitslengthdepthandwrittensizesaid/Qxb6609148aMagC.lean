import Derived.Test.Qxb6609148aMag
import Derived.Test.Qxb6609148aMeas
namespace Go.Proofs.Qxb6609148a
open Go.RowKit Go.Joins

theorem bitLen_256 (a : Nat) (h : a < 256) (h0 : a ≠ 0) : 1 ≤ Lib.bitLen a ∧ Lib.bitLen a ≤ 8 :=
  ⟨by rw [Lib.bitLen_half a h0 (by omega)]; omega, Lib.bitLen_le8 ⟨a, h⟩⟩
theorem bc_bitLen : ∀ (n a : Nat), a ≤ n → a < 18446744073709551616 → bc a = (Lib.bitLen a + 7) / 8
  | 0, a, h, _ => by
    have : a = 0 := by omega
    subst this
    rw [bc_zero]; rfl
  | n + 1, a, h, ha => by
    by_cases h0 : a = 0
    · subst h0; rw [bc_zero]; rfl
    · rw [bc_pos h0]
      by_cases hs : a < 256
      · have := bitLen_256 a hs h0
        have e : a / 256 = 0 := by omega
        rw [e, bc_zero]; omega
      · rw [bc_bitLen n (a / 256) (by omega) (by omega), Lib.bitLen_shift8 a (by omega) ha]
        omega
theorem magC : Hid MagC := hid fun p a w h ha => by
  refine (magnitude_any p a w h ha).mono ?_
  rintro e w' ⟨he, hw⟩
  rw [bc_bitLen a a (Nat.le_refl _) ha]
  exact ⟨he, hw⟩
end Go.Proofs.Qxb6609148a
