import Derived.Test.Qxb6609148aBig
import Derived.Laws.BitsAllLaws
import Derived.Test.Qxb6609148aLens
namespace Go.Proofs.Qxb6609148a
open Go.RowKit Go.Joins

theorem bitLen_bounds : ∀ (n x : Nat), n ≤ 63 → 2 ^ n ≤ x → x < 2 ^ (n + 1) → Lib.bitLen x = n + 1
  | 0, x, _, h1, h2 => by
    have : x = 1 := by simp at h1 h2; omega
    subst this; rfl
  | n + 1, x, hn, h1, h2 => by
    have h3 : x < 2 ^ 64 := Nat.lt_of_lt_of_le h2 (Nat.pow_le_pow_right (by omega) (by omega))
    have h4 : x ≠ 0 := by have := Nat.two_pow_pos (n + 1); omega
    rw [Lib.bitLen_half x h4 h3, bitLen_bounds n (x / 2) (by omega) (by rw [Nat.pow_succ] at h1; omega) (by rw [Nat.pow_succ] at h2; omega)]
    omega
theorem bitLen_top (x : Nat) (h0 : x ≠ 0) (h : x < 18446744073709551616) : ∃ n, n ≤ 63 ∧ 2 ^ n ≤ x ∧ x < 2 ^ (n + 1) :=
  ⟨Nat.log2 x, by have := (Nat.log2_lt h0).2 (show x < 2 ^ 64 by simpa using h); omega, Nat.log2_self_le h0, Nat.lt_log2_self⟩

/-- one smear: not less, and no longer -/
def Sm (n x y : Nat) : Prop := x ≤ y ∧ y < 2 ^ (n + 1)
theorem Sm.step {n x y : Nat} (h : Sm n x y) (hn : n ≤ 63) (k : Nat) : ∃ z : Nat, bits .or .u64 (y : Int) ((y / k : Nat) : Int) = (z : Int) ∧ Sm n x z ∧ z < 18446744073709551616 := by
  have hp : 2 ^ (n + 1) ≤ 2 ^ 64 := Nat.pow_le_pow_right (by omega) (by omega)
  have hy : y < 18446744073709551616 := Nat.lt_of_lt_of_le h.2 (by simpa using hp)
  have hd : y / k ≤ y := Nat.div_le_self y k
  refine ⟨y ||| (y / k), u64_or_nat y (y / k) hy (by omega), ⟨Nat.le_trans h.1 Nat.left_le_or, Nat.or_lt_two_pow h.2 (by have := h.2; omega)⟩, ?_⟩
  have := Nat.or_lt_two_pow (n := 64) (x := y) (y := y / k) (by simpa using hy) (by simp; omega)
  simpa using this
theorem Sm.len {n x y : Nat} (h : Sm n x y) (hn : n ≤ 63) (hx : 2 ^ n ≤ x) (hx2 : x < 2 ^ (n + 1)) : Lib.bitLen y = Lib.bitLen x := by
  rw [bitLen_bounds n y hn (Nat.le_trans hx h.1) h.2, bitLen_bounds n x hn hx hx2]

theorem natBitLen_zero (w : World) : Calls Try.prog 39 #[.slice none 0 0] w fun e w' => e = .returned (.int .i64 0) ∧ w' = w := by
  go_enter Try.func39, Try.ntmps39
  go_wp2
  go_ret
  exact ⟨rfl, rfl⟩

set_option maxHeartbeats 4000000 in
set_option maxRecDepth 100000 in
theorem natBitLen_one (h a : Nat) (w : World) (hc : w.cell? ⟨h, 0, none⟩ = some (.int .u64 (a : Int))) (h0 : a ≠ 0) (ha : a < 18446744073709551616) :
    Calls Try.prog 39 #[.slice (some ⟨h, 0, none⟩) 1 1] w fun e w' => e = .returned (.int .i64 (Lib.bitLen a : Int)) ∧ w' = w := by
  obtain ⟨n, hn, hx, hx2⟩ := bitLen_top a h0 ha
  obtain ⟨z1, e1, s1, b1⟩ := Sm.step (n := n) (x := a) (y := a) ⟨Nat.le_refl _, hx2⟩ hn 2
  obtain ⟨z2, e2, s2, b2⟩ := s1.step hn 4
  obtain ⟨z3, e3, s3, b3⟩ := s2.step hn 16
  obtain ⟨z4, e4, s4, b4⟩ := s3.step hn 256
  obtain ⟨z5, e5, s5, b5⟩ := s4.step hn 65536
  obtain ⟨z6, e6, s6, b6⟩ := s5.step hn 4294967296
  have HL := hid (s6.len hn hx hx2)
  have hxx := hx
  have hxx2 := hx2
  have hnn := hn
  clear s1 s2 s3 s4 s5 s6 hx hx2 hn
  rw [Int.natCast_ediv] at e1 e2 e3 e4 e5 e6
  have d1 : bits .or .u64 (a : Int) ((a : Int) / 2) = z1 := e1
  have d2 : bits .or .u64 (z1 : Int) ((z1 : Int) / 4) = z2 := e2
  have d3 : bits .or .u64 (z2 : Int) ((z2 : Int) / 16) = z3 := e3
  have d4 : bits .or .u64 (z3 : Int) ((z3 : Int) / 256) = z4 := e4
  have d5 : bits .or .u64 (z4 : Int) ((z4 : Int) / 65536) = z5 := e5
  have q : (z5 : Int) / 65536 / 65536 = (z5 : Int) / 4294967296 := by omega
  have d6 : bits .or .u64 (z5 : Int) ((z5 : Int) / 65536 / 65536) = z6 := by rw [q]; exact e6
  clear q e1 e2 e3 e4 e5 e6
  obtain ⟨M, hM⟩ : ∃ M, M = Lib.bitLen a := ⟨_, rfl⟩
  have H40 := hid (Try.bits_Len (z6 : Int) w (by omega) (by omega))
  rw [Int.toNat_natCast, HL.out, ← hM] at H40
  have hMb : M ≤ 64 := by rw [hM, bitLen_bounds n a hnn hxx hxx2]; omega
  rw [← hM]
  clear hM HL hxx hxx2
  go_enter Try.func39, Try.ntmps39
  go_wp2_with (go_at_call 40; refine H40.out.mono ?_; rintro e w' ⟨rfl, hw⟩; have hw2 := hw.symm; clear hw; subst hw2)
  go_ret
  exact ⟨ret_i64 (by omega), rfl⟩
end Go.Proofs.Qxb6609148a
