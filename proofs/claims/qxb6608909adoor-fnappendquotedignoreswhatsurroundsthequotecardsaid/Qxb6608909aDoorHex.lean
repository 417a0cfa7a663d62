import Derived.Test.Qxb6608909aDoorRows
import Derived.Test.Qxb6608909aDoorQuo
import Derived.WalkKit
import Derived.WalkSpells
import Derived.WalkLawsBesides
namespace Go.Proofs.Qxb6608909aDoor
open Go.RowKit

theorem ret_b {a b : Bool} (h : a = b) : Ending.returned (.bool a) = .returned (.bool b) := by rw [h]
theorem ret_u8 {a b : Int} (h : a = b) : Ending.returned (.int .u8 a) = .returned (.int .u8 b) := by rw [h]
theorem ret_u8b {a b : Int} {c d : Bool} (h : a = b) (h2 : c = d) : Ending.returned (.tuple #[.int .u8 a, .bool c]) = .returned (.tuple #[.int .u8 b, .bool d]) := by rw [h, h2]

theorem ranges (c : Int) : c < 48 ∨ (48 ≤ c ∧ c ≤ 57) ∨ (57 < c ∧ c < 65) ∨ (65 ≤ c ∧ c ≤ 70) ∨ (70 < c ∧ c < 97) ∨ (97 ≤ c ∧ c ≤ 102) ∨ 102 < c := by omega

set_option maxHeartbeats 1000000 in
theorem isHex_any (c : Int) (w : World) (h0 : 0 ≤ c) (h1 : c ≤ 255) : Calls Tryd.prog 37 #[.int .u8 c] w fun e w' => e = .returned (.bool (hexB c)) ∧ w' = w := by
  rcases ranges c with h | ⟨h, h'⟩ | ⟨h, h'⟩ | ⟨h, h'⟩ | ⟨h, h'⟩ | ⟨h, h'⟩ | h
  all_goals
    go_enter Tryd.func37, Tryd.ntmps37
    go_wp2
    all_goals go_ret
    all_goals exact ⟨ret_b (by rw [Bool.eq_iff_iff]; simp [hexB]; omega), rfl⟩

set_option maxHeartbeats 1000000 in
theorem unescape_any (c : Int) (w : World) : Calls Tryd.prog 39 #[.int .u8 c] w fun e w' => e = .returned (.int .u8 (unesc c)) ∧ w' = w := by
  go_enter Tryd.func39, Tryd.ntmps39
  go_wp2
  all_goals go_ret
  all_goals exact ⟨ret_u8 (by simp_all [unesc]), rfl⟩

set_option maxHeartbeats 1000000 in
theorem zzUnesc_any (c : Int) (w : World) : Calls Tryd.prog 29 #[.int .u8 c] w fun e w' => e = .returned (.int .u8 (unesc c)) ∧ w' = w := by
  go_enter Tryd.func29, Tryd.ntmps29
  go_wp2
  all_goals go_ret
  all_goals exact ⟨ret_u8 (by simp_all [unesc]), rfl⟩

/-- the value that zzHexVal hands out -/
def hexo (c : Int) : Int := if hexB c = true then hexv c else 0

set_option maxHeartbeats 1000000 in
theorem zzHexVal_any (c : Int) (w : World) (h0 : 0 ≤ c) (h1 : c ≤ 255) : Calls Tryd.prog 30 #[.int .u8 c] w fun e w' => e = .returned (.tuple #[.int .u8 (hexo c), .bool (hexB c)]) ∧ w' = w := by
  rcases ranges c with h | ⟨h, h'⟩ | ⟨h, h'⟩ | ⟨h, h'⟩ | ⟨h, h'⟩ | ⟨h, h'⟩ | h
  · have hb : hexB c = false := by rw [Bool.eq_false_iff]; simp [hexB]; omega
    go_enter Tryd.func30, Tryd.ntmps30
    go_wp2
    all_goals go_ret2
    all_goals exact ⟨ret_u8b (by simp [hexo, hb]) (by first | rfl | exact hb.symm), rfl⟩
  · have hb : hexB c = true := by simp [hexB]; omega
    go_enter Tryd.func30, Tryd.ntmps30
    go_wp2
    all_goals go_ret2
    all_goals exact ⟨ret_u8b (by simp [hexo, hb, hexv]; omega) (by first | rfl | exact hb.symm), rfl⟩
  · have hb : hexB c = false := by rw [Bool.eq_false_iff]; simp [hexB]; omega
    go_enter Tryd.func30, Tryd.ntmps30
    go_wp2
    all_goals go_ret2
    all_goals exact ⟨ret_u8b (by simp [hexo, hb]) (by first | rfl | exact hb.symm), rfl⟩
  · have hb : hexB c = true := by simp [hexB]; omega
    go_enter Tryd.func30, Tryd.ntmps30
    go_wp2
    all_goals go_ret2
    all_goals exact ⟨ret_u8b (by simp [hexo, hb, hexv]; omega) (by first | rfl | exact hb.symm), rfl⟩
  · have hb : hexB c = false := by rw [Bool.eq_false_iff]; simp [hexB]; omega
    go_enter Tryd.func30, Tryd.ntmps30
    go_wp2
    all_goals go_ret2
    all_goals exact ⟨ret_u8b (by simp [hexo, hb]) (by first | rfl | exact hb.symm), rfl⟩
  · have hb : hexB c = true := by simp [hexB]; omega
    go_enter Tryd.func30, Tryd.ntmps30
    go_wp2
    all_goals go_ret2
    all_goals exact ⟨ret_u8b (by simp [hexo, hb, hexv]; omega) (by first | rfl | exact hb.symm), rfl⟩
  · have hb : hexB c = false := by rw [Bool.eq_false_iff]; simp [hexB]; omega
    go_enter Tryd.func30, Tryd.ntmps30
    go_wp2
    all_goals go_ret2
    all_goals exact ⟨ret_u8b (by simp [hexo, hb]) (by first | rfl | exact hb.symm), rfl⟩

/-- what lower makes of a hex digit's letter -/
theorem or32 (c : Int) (h : (65 ≤ c ∧ c ≤ 70) ∨ (97 ≤ c ∧ c ≤ 102)) : bits BinOp.or IntKind.u8 c 32 = if c ≤ 70 then c + 32 else c := by
  have : c = 65 ∨ c = 66 ∨ c = 67 ∨ c = 68 ∨ c = 69 ∨ c = 70 ∨ c = 97 ∨ c = 98 ∨ c = 99 ∨ c = 100 ∨ c = 101 ∨ c = 102 := by omega
  rcases this with rfl | rfl | rfl | rfl | rfl | rfl | rfl | rfl | rfl | rfl | rfl | rfl <;> rfl

theorem lower_any (c : Int) (w : World) (h : (65 ≤ c ∧ c ≤ 70) ∨ (97 ≤ c ∧ c ≤ 102)) : Calls Tryd.prog 44 #[.int .u8 c] w fun e w' => e = .returned (.int .u8 (hexv c + 87)) ∧ w' = w := by
  have hb := or32 c h
  go_enter Tryd.func44, Tryd.ntmps44
  go_wp2
  all_goals go_ret
  all_goals exact ⟨ret_u8 (by unfold hexv; split <;> (try split) <;> omega), rfl⟩
end Go.Proofs.Qxb6608909aDoor
