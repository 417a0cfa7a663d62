import Derived.Test.Qxb6609148aBase
namespace Go.Proofs.Qxb6609148a
open Go.RowKit Go.Joins

set_option maxHeartbeats 4000000 in
set_option maxRecDepth 100000 in
theorem validUTF8_any (s : ByteArray) (w : World) (hs : s.size ≤ 140737488355328) : Calls Try.prog 20 #[.string s] w fun e w' => IsB e ∧ w' = w := by
  go_enter Try.func20, Try.ntmps20
  go_wp2
  go_loop [3] (fun i => ∃ k : Nat, k ≤ s.size ∧ i = .int .i64 k) (fun i => s.size - (intOf i).toNat)
  case atStart => exact ⟨0, Nat.zero_le _, rfl⟩
  case round =>
    obtain ⟨k, hk, rfl⟩ := hrel
    by_cases hlt : (k : Int) < s.size
    · have hkn : k < s.size := by omega
      have hb : s[k].toNat < 256 := s[k].toNat_lt
      go_wp2
      all_goals try (go_ret; exact ⟨⟨_, rfl⟩, rfl⟩)
      all_goals try (exact ⟨⟨k + 1, by omega, by go_num⟩, by simp [intOf]; omega⟩)
      all_goals (
        go_loop [7, 8] (fun r j => ∃ (R : Int) (J : Nat), r = .int .i64 R ∧ j = .int .i64 J ∧ 1 ≤ J ∧ J ≤ 4) (fun _ j => 4 - (intOf j).toNat)
        case atStart => exact ⟨_, 1, rfl, rfl, by omega, by omega⟩
        case round =>
          obtain ⟨R, J, rfl, rfl, hJ, hJ4⟩ := hrel
          go_wp2
          all_goals try (go_ret; exact ⟨⟨_, rfl⟩, rfl⟩)
          all_goals try (exact ⟨⟨_, J + 1, rfl, by go_num, by omega, by omega⟩, by simp [intOf]; omega⟩)
          all_goals try (exact ⟨⟨k + 2, by omega, by go_num⟩, by simp [intOf]; omega⟩)
          all_goals try (exact ⟨⟨k + 3, by omega, by go_num⟩, by simp [intOf]; omega⟩)
          all_goals try (exact ⟨⟨k + 4, by omega, by go_num⟩, by simp [intOf]; omega⟩))
    · go_wp2
      go_ret
      exact ⟨⟨_, rfl⟩, rfl⟩

theorem allValid_any (B : Nat) (v : Value) (ss : List ByteArray) (w : World) (h : Rs B w v ss) (hz : Sz ss) :
    Calls Try.prog 8 #[v] w fun e w' => IsB e ∧ w' = w := by
  obtain ⟨ao, cap, rfl, hl, hm, -, hc⟩ := h.parts
  have HC := hid hc
  have HZ := hid hz
  clear hc hz h
  go_enter Try.func8, Try.ntmps8
  go_wp2
  go_loop [3] (fun i => ∃ k : Nat, k ≤ ss.length ∧ i = .int .i64 k) (fun i => ss.length - (intOf i).toNat)
  case atStart => exact ⟨0, Nat.zero_le _, rfl⟩
  case round =>
    obtain ⟨k, hk, rfl⟩ := hrel
    by_cases hlt : (k : Int) < ss.length
    · obtain ⟨b, off, rfl, hlb, hx⟩ := HC.out k (by omega)
      have hs := HZ.out k (by omega)
      obtain ⟨s, hse⟩ : ∃ s, s = ss.getD k .empty := ⟨_, rfl⟩
      rw [← hse] at hx hs
      clear hse
      go_wp2_with (go_at_call 20; refine (validUTF8_any s _ hs).mono ?_; rintro e w' ⟨⟨β, rfl⟩, hw⟩; have hw2 := hw.symm; clear hw; subst hw2; cases β)
      · go_ret
        exact ⟨⟨_, rfl⟩, rfl⟩
      · refine ⟨⟨k + 1, by omega, by go_num⟩, ?_⟩
        simp [intOf]; omega
    · go_wp2
      go_ret
      exact ⟨⟨_, rfl⟩, rfl⟩
end Go.Proofs.Qxb6609148a
