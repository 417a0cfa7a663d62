import Derived.Test.Qxb6608602aPlain
import Derived.Deep.QuietTactic
import Derived.BigQuiet
namespace Go.Proofs.Qxb6608602a
open Go.RowKit

def hasPre (s p : ByteArray) : Bool := decide (s.data.toList.take p.size = p.data.toList)

theorem hasPre_short {s p : ByteArray} (h : (s.size : Int) < p.size) : hasPre s p = false := by
  unfold hasPre
  rw [decide_eq_false_iff_not]
  intro c
  have := congrArg List.length c
  simp at this
  omega
theorem take_snoc (s : ByteArray) (k : Nat) (h : k < s.size) : s.data.toList.take (k + 1) = s.data.toList.take k ++ [s[k]] := by
  rw [List.take_succ_eq_append_getElem (by simpa using h)]; rfl

theorem ret_bool {a b : Bool} (h : a = b) : Ending.returned (.bool a) = .returned (.bool b) := by rw [h]

theorem hasPre_miss {s p : ByteArray} {k : Nat} (h1 : k < s.size) (h2 : k < p.size) (h : ((s[k].toNat : Int) != (p[k].toNat : Int)) = true) : hasPre s p = false := by
  unfold hasPre
  rw [decide_eq_false_iff_not]
  intro c
  have e : s.data.toList[k]? = p.data.toList[k]? := by
    rw [← c, List.getElem?_take_of_lt h2]
  have e1 : s.data.toList[k]? = some s[k] := by rw [List.getElem?_eq_getElem (by simpa using h1)]; rfl
  have e2 : p.data.toList[k]? = some p[k] := by rw [List.getElem?_eq_getElem (by simpa using h2)]; rfl
  rw [e1, e2] at e
  have e' : s[k] = p[k] := by simpa using e
  rw [e'] at h
  simp at h
theorem take_step {s p : ByteArray} {k : Nat} (h1 : k < s.size) (h2 : k < p.size) (h : ((s[k].toNat : Int) != (p[k].toNat : Int)) = false)
    (H : s.data.toList.take k = p.data.toList.take k) : s.data.toList.take (k + 1) = p.data.toList.take (k + 1) := by
  have e : s[k] = p[k] := by
    apply UInt8.toNat_inj.1
    have : (s[k].toNat : Int) = (p[k].toNat : Int) := by simpa using h
    omega
  rw [take_snoc s k h1, take_snoc p k h2, H, e]
theorem hasPre_hit {s p : ByteArray} {k : Nat} (h1 : k ≤ p.size) (h2 : p.size ≤ k) (H : s.data.toList.take k = p.data.toList.take k) : hasPre s p = true := by
  have e : k = p.size := by omega
  subst e
  unfold hasPre
  rw [decide_eq_true_iff, H, List.take_of_length_le (by simp)]

theorem zzhas_any (s p : ByteArray) (w : World) (hs : s.size ≤ maxLen) (_hp : p.size ≤ maxLen) :
    Calls Try.prog 8 #[.string s, .string p] w fun e w' => e = .returned (.bool (hasPre s p)) ∧ ∃ n, w' = w.drewN n := by
  unfold maxLen at hs _hp
  by_cases hsh : (s.size : Int) < p.size
  · go_enter Try.func8, Try.ntmps8
    go_wp2
    go_ret
    exact ⟨ret_bool (hasPre_short hsh).symm, 0, rfl⟩
  go_enter Try.func8, Try.ntmps8
  go_wp2
  go_loopw [5] (fun i wr => ∃ k n : Nat, k ≤ p.size ∧ i = .int .i64 k ∧ wr = w.drewN n ∧ Hid (s.data.toList.take k = p.data.toList.take k)) (fun i _ => p.size - (intOf i).toNat)
  case atStart => exact ⟨0, 0, Nat.zero_le _, rfl, rfl, rfl⟩
  case round =>
    obtain ⟨k, n, hk, rfl, rfl, H⟩ := hrel
    by_cases hlt : (k : Int) < p.size
    · have hls : (k : Int) < s.size := by omega
      go_wp2
      go_quiet (fail)
      go_wp2
      · go_ret
        exact ⟨ret_bool (hasPre_miss (k := k) (by omega) (by omega) ‹_›).symm, n + nq, by simp⟩
      · refine ⟨⟨k + 1, n + nq, by omega, by go_num, rfl, take_step (k := k) (by omega) (by omega) ‹_› H.out⟩, ?_⟩
        simp [intOf]; omega
    · go_wp2
      go_ret
      exact ⟨ret_bool (hasPre_hit hk (by omega) H.out).symm, n, rfl⟩
end Go.Proofs.Qxb6608602a
