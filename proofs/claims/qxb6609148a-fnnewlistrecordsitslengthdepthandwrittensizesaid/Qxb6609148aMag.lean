import Derived.Test.Qxb6609148aBit
namespace Go.Proofs.Qxb6609148a
open Go.RowKit Go.Joins

theorem bigBitLen_any (p : Value) (a : Nat) (w : World) (h : Ip w.heap.size w p a) (ha : a < 18446744073709551616) :
    Calls Try.prog 31 #[p] w fun e w' => e = .returned (.int .i64 (Lib.bitLen a : Int)) ∧ w' = w := by
  obtain ⟨g, rfl, hg, h3⟩ := h
  rcases h3 with ⟨rfl, hc⟩ | ⟨h0, q, hq, hc, hd⟩
  · have H := hid (natBitLen_zero w)
    go_enter Try.func31, Try.ntmps31
    go_wp2_with (go_at_call 39; refine H.out.mono ?_; rintro e w' ⟨rfl, hw⟩; have hw2 := hw.symm; clear hw; subst hw2)
    go_ret
    exact ⟨rfl, rfl⟩
  · have H := hid (natBitLen_one q a w hd h0 ha)
    go_enter Try.func31, Try.ntmps31
    go_wp2_with (go_at_call 39; refine H.out.mono ?_; rintro e w' ⟨rfl, hw⟩; have hw2 := hw.symm; clear hw; subst hw2)
    go_ret
    exact ⟨rfl, rfl⟩

theorem magnitude_any (p : Value) (a : Nat) (w : World) (h : Ip w.heap.size w p a) (ha : a < 18446744073709551616) :
    Calls Try.prog 24 #[p] w fun e w' => e = .returned (.int .i64 (((Lib.bitLen a + 7) / 8 : Nat) : Int)) ∧ w' = w := by
  have H := hid (bigBitLen_any p a w h ha)
  have hb : Lib.bitLen a ≤ 64 := by
    by_cases h0 : a = 0
    · subst h0; decide
    · obtain ⟨n, hn, hx, hx2⟩ := bitLen_top a h0 ha
      rw [bitLen_bounds n a hn hx hx2]; omega
  clear h
  obtain ⟨M, hM⟩ : ∃ M, M = Lib.bitLen a := ⟨_, rfl⟩
  rw [← hM] at H hb ⊢
  clear hM
  go_enter Try.func24, Try.ntmps24
  go_wp2_with (go_at_call 31; refine H.out.mono ?_; rintro e w' ⟨rfl, hw⟩; have hw2 := hw.symm; clear hw; subst hw2)
  go_ret
  exact ⟨ret_i64 (by omega), rfl⟩
end Go.Proofs.Qxb6609148a
