import Derived.Test.Qxb6608602aHas
namespace Go.Proofs.Qxb6608602a
theorem hasPre_hasP (s : ByteArray) : hasPre s ⟨#[121, 97, 109, 108, 58, 32]⟩ = hasP s := by
  rw [Bool.eq_iff_iff, hasP_iff]
  unfold hasPre
  rw [decide_eq_true_iff]
  exact Iff.rfl
theorem list_inj {a b : ByteArray} : a.toList = b.toList ↔ a = b := by
  constructor
  · intro h; rw [toList_data, toList_data] at h; exact ext_list h
  · intro h; rw [h]
theorem strip_lit (s : ByteArray) : strip (⟨#[121, 97, 109, 108, 58, 32]⟩ ++ s) = s := by
  have := strip_pre s ByteArray.empty
  rw [ByteArray.append_empty, ByteArray.append_empty] at this
  exact this
theorem strip_hasnot {s : ByteArray} (h : hasP s = false) : strip s = s := by
  unfold strip; rw [if_neg (by rw [h]; decide)]
theorem strip_has {s : ByteArray} (h : hasP s = true) : s = ⟨#[121, 97, 109, 108, 58, 32]⟩ ++ strip s := by
  apply ext_list
  rw [data_app, strip_data, if_pos ((hasP_iff s).1 h)]
  have := (hasP_iff s).1 h
  conv => lhs; rw [← List.take_append_drop 6 s.data.toList, this]
theorem size_pre (s : ByteArray) : ((⟨#[121, 97, 109, 108, 58, 32]⟩ : ByteArray) ++ s).size = 6 + s.size := by
  rw [ByteArray.size_append, size_lit]
theorem ne_pre (s : ByteArray) : ¬ (s.toList = (⟨#[121, 97, 109, 108, 58, 32]⟩ ++ s : ByteArray).toList) := by
  rw [list_inj]; intro h
  have := congrArg ByteArray.size h
  rw [size_pre] at this; omega
theorem ne_pre2 (s : ByteArray) : ¬ (s.toList = (⟨#[121, 97, 109, 108, 58, 32]⟩ ++ (⟨#[121, 97, 109, 108, 58, 32]⟩ ++ s) : ByteArray).toList) := by
  rw [list_inj]; intro h
  have := congrArg ByteArray.size h
  rw [size_pre, size_pre] at this; omega
/-- no twin: the stripped texts differ -/
theorem apart {a b : ByteArray} (h1 : ¬ a = b) (h2 : ¬ a = ⟨#[121, 97, 109, 108, 58, 32]⟩ ++ b) (h3 : ¬ b = ⟨#[121, 97, 109, 108, 58, 32]⟩ ++ a) :
    ¬ strip a = strip b := by
  intro h
  cases ha : hasP a <;> cases hb : hasP b
  · rw [strip_hasnot ha, strip_hasnot hb] at h; exact h1 h
  · rw [strip_hasnot ha] at h; exact h3 (by rw [h]; exact strip_has hb)
  · rw [strip_hasnot hb] at h; exact h2 (by rw [← h]; exact strip_has ha)
  · exact h1 (by rw [strip_has ha, strip_has hb, h])
theorem has_ne {a : ByteArray} (h : hasP a = true) : ¬ a = strip a := by
  intro c
  have e := congrArg ByteArray.size (strip_has h)
  rw [size_pre, ← c] at e
  omega
theorem beq_list {a b : ByteArray} : (a.toList == b.toList) = decide (a = b) := by
  rw [Bool.eq_iff_iff, beq_iff_eq, decide_eq_true_iff, list_inj]
/-- THE LAW, with no Go in sight -/
theorem plain4 (a b : ByteArray) : ((strip a).toList == (strip b).toList) =
    ((a.toList == b.toList) || ((a.toList == (⟨#[121, 97, 109, 108, 58, 32]⟩ ++ b : ByteArray).toList) && !hasPre b ⟨#[121, 97, 109, 108, 58, 32]⟩)
      || ((b.toList == (⟨#[121, 97, 109, 108, 58, 32]⟩ ++ a : ByteArray).toList) && !hasPre a ⟨#[121, 97, 109, 108, 58, 32]⟩)) := by
  rw [hasPre_hasP, hasPre_hasP, beq_list, beq_list, beq_list, beq_list]
  by_cases h1 : a = b
  · subst h1; simp
  by_cases h2 : a = ⟨#[121, 97, 109, 108, 58, 32]⟩ ++ b
  · subst h2
    have n2 : ¬ b = ⟨#[121, 97, 109, 108, 58, 32]⟩ ++ (⟨#[121, 97, 109, 108, 58, 32]⟩ ++ b) := fun c => ne_pre2 b (list_inj.2 c)
    rw [strip_lit]
    cases hb : hasP b
    · rw [strip_hasnot hb]; simp
    · have := has_ne hb
      simp [h1, n2, this]
  by_cases h3 : b = ⟨#[121, 97, 109, 108, 58, 32]⟩ ++ a
  · subst h3
    rw [strip_lit]
    cases hb : hasP a
    · rw [strip_hasnot hb]; simp
    · have := has_ne hb
      simp [h1, h2, Ne.symm this]
  have := apart h1 h2 h3
  simp [h1, h2, h3, this]
end Go.Proofs.Qxb6608602a
