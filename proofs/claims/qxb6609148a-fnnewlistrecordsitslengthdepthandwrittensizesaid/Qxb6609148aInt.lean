import Derived.Test.Qxb6609148aList
namespace Go.Proofs.Qxb6609148a
open Go.RowKit Go.Joins

/-- the number of bytes -/
def bc (a : Nat) : Nat := if a = 0 then 0 else bc (a / 256) + 1
decreasing_by omega
theorem bc_zero : bc 0 = 0 := by rw [bc, if_pos rfl]
theorem bc_pos {a : Nat} (h : a ≠ 0) : bc a = bc (a / 256) + 1 := by rw [bc, if_neg h]
theorem bc_le : ∀ (k a : Nat), a < 256 ^ k → bc a ≤ k
  | 0, a, h => by
    have : a = 0 := by simpa using h
    rw [this, bc_zero]; omega
  | k + 1, a, h => by
    by_cases h0 : a = 0
    · rw [h0, bc_zero]; omega
    · have := bc_le k (a / 256) (by rw [Nat.pow_succ] at h; omega)
      rw [bc_pos h0]; omega

theorem ret_u64 {a b : Int} (h : a = b) : Ending.returned (.int .u64 a) = .returned (.int .u64 b) := by rw [h]
theorem ret_i64 {a b : Int} (h : a = b) : Ending.returned (.int .i64 a) = .returned (.int .i64 b) := by rw [h]
theorem neg_wrap (x : Int) (h : -9223372036854775808 ≤ x) (h0 : x < 0) : IntKind.u64.wrap (-IntKind.u64.wrap x) = (x.natAbs : Int) := by
  simp [IntKind.wrap, IntKind.bits, IntKind.signed]
  omega

theorem zzBytesR_any (B : Nat) (v : Value) (ss : List ByteArray) (x : Int) (w : World) (h : Rs B w v ss) (hz : Sz ss) :
    Calls Try.prog 16 #[v, .int .i64 x] w fun e w' => IsB e ∧ w' = w := by
  obtain ⟨ao, cap, rfl, hl, hm, -, hc⟩ := h.parts
  have HC := hid hc
  have HZ := hid hz
  clear hc hz h
  go_enter Try.func16, Try.ntmps16
  go_wp2
  all_goals try (go_ret; exact ⟨⟨_, rfl⟩, rfl⟩)
  go_loop [5, 6] (fun t i => ∃ k T : Nat, k ≤ ss.length ∧ i = .int .i64 k ∧ t = .int .i64 T ∧ T ≤ 1048576) (fun _ i => ss.length - (intOf i).toNat)
  case atStart => exact ⟨0, ss.length, Nat.zero_le _, rfl, by go_num, by omega⟩
  case round =>
    obtain ⟨k, T, hk, rfl, rfl, hT⟩ := hrel
    by_cases hlt : (k : Int) < ss.length
    · obtain ⟨b, off, rfl, hlb, hx⟩ := HC.out k (by omega)
      have hs := HZ.out k (by omega)
      obtain ⟨s, hse⟩ : ∃ s, s = ss.getD k .empty := ⟨_, rfl⟩
      rw [← hse] at hx hs
      clear hse
      go_wp2
      all_goals try (go_ret; exact ⟨⟨_, rfl⟩, rfl⟩)
      refine ⟨⟨k + 1, T + s.size, by omega, by go_num, by go_num, by omega⟩, ?_⟩
      simp [intOf]; omega
    · go_wp2
      go_ret
      exact ⟨⟨_, rfl⟩, rfl⟩

theorem absU64_any (x : Int) (w : World) (h : -9223372036854775808 ≤ x ∧ x ≤ 9223372036854775807) :
    Calls Try.prog 15 #[.int .i64 x] w fun e w' => e = .returned (.int .u64 (x.natAbs : Int)) ∧ w' = w := by
  by_cases h0 : x < 0
  · go_enter Try.func15, Try.ntmps15
    go_wp2
    go_ret
    exact ⟨ret_u64 (neg_wrap x h.1 h0), rfl⟩
  · go_enter Try.func15, Try.ntmps15
    go_wp2
    go_ret
    exact ⟨ret_u64 (by omega), rfl⟩

theorem byteCount_any (a : Nat) (w : World) (h : a < 18446744073709551616) :
    Calls Try.prog 14 #[.int .u64 a] w fun e w' => e = .returned (.int .i64 (bc a : Int)) ∧ w' = w := by
  have hba : bc a ≤ 8 := bc_le 8 a (by simpa using h)
  go_enter Try.func14, Try.ntmps14
  go_wp2
  go_loop [0, 3] (fun va vn => ∃ y n : Nat, va = .int .u64 y ∧ vn = .int .i64 n ∧ y ≤ a ∧ n + bc y = bc a) (fun va _ => (intOf va).toNat)
  case atStart => exact ⟨a, 0, rfl, rfl, Nat.le_refl _, by omega⟩
  case round =>
    obtain ⟨y, n, rfl, rfl, hy, hn⟩ := hrel
    by_cases h0 : y = 0
    · subst h0
      go_wp2
      go_ret
      rw [bc_zero] at hn
      exact ⟨ret_i64 (by omega), rfl⟩
    · have hne : ((y : Int) != 0) = true := by rw [bne_iff_ne]; omega
      have hp := bc_pos h0
      go_wp2
      refine ⟨⟨y / 256, n + 1, by first | rfl | (congr 1; omega), by first | rfl | (congr 1; omega), by omega, by omega⟩, ?_⟩
      simp [intOf]; omega
end Go.Proofs.Qxb6609148a
