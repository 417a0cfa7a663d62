/- 'aq' by index: what each turn of appendQuoted's loop does. No Go in sight. -/
import Derived.Test.Qxb6608909aDoorQuo
namespace Go.Proofs.Qxb6608909aDoor

theorem drop_cons {l : List Int} {k : Nat} (h : k < l.length) : l.drop k = l.getD k 0 :: l.drop (k + 1) := by
  rw [List.drop_eq_getElem_cons h, List.getD_eq_getElem?_getD, List.getElem?_eq_getElem h]; rfl

theorem st_plain {q : Int} {l : List Int} {k : Nat} (h : k < l.length) (h2 : l.getD k 0 ≠ 92 ∨ k + 1 = l.length) : aqStep q (l.drop k) = (l.getD k 0, 1) := by
  rw [drop_cons h]
  by_cases he : k + 1 = l.length
  · rw [List.drop_eq_nil_of_le (by omega)]; rfl
  · rw [drop_cons (l := l) (k := k + 1) (by omega)]
    have h3 : l.getD k 0 ≠ 92 := by rcases h2 with h2 | h2; exact h2; exact absurd h2 he
    simp only [aqStep]
    rw [if_pos h3]
theorem st_sq1 {q : Int} {l : List Int} {k : Nat} (h : k + 1 < l.length) (hc : l.getD k 0 = 92) (hq : q = 39) (hd : l.getD (k + 1) 0 = 39) : aqStep q (l.drop k) = (39, 2) := by
  rw [drop_cons (by omega), drop_cons (k := k + 1) h, hc, hd]
  simp [aqStep, hq]
theorem st_sq0 {q : Int} {l : List Int} {k : Nat} (h : k + 1 < l.length) (hc : l.getD k 0 = 92) (hq : q = 39) (hd : l.getD (k + 1) 0 ≠ 39) : aqStep q (l.drop k) = (92, 1) := by
  rw [drop_cons (by omega), drop_cons (k := k + 1) h, hc]
  simp only [aqStep]
  rw [if_neg (by simp), if_pos hq, if_neg hd]
theorem st_hex {q : Int} {l : List Int} {k : Nat} (h : k + 3 < l.length) (hc : l.getD k 0 = 92) (hq : q ≠ 39) (hd : l.getD (k + 1) 0 = 120) (h1 : hexB (l.getD (k + 2) 0) = true) (h2 : hexB (l.getD (k + 3) 0) = true) :
    aqStep q (l.drop k) = (hexv (l.getD (k + 2) 0) * 16 + hexv (l.getD (k + 3) 0), 4) := by
  rw [drop_cons (by omega), drop_cons (k := k + 1) (by omega), drop_cons (k := k + 2) (by omega), drop_cons (k := k + 3) (by omega), hc, hd]
  simp only [aqStep]
  rw [if_neg (by simp), if_neg hq, if_pos (by simp only [hex2, h1, h2, Bool.and_self, and_self])]
  simp only [hexval2]
theorem st_esc {q : Int} {l : List Int} {k : Nat} (h : k + 1 < l.length) (hc : l.getD k 0 = 92) (hq : q ≠ 39) (hn : ¬ (l.getD (k + 1) 0 = 120 ∧ k + 3 < l.length ∧ hexB (l.getD (k + 2) 0) = true ∧ hexB (l.getD (k + 3) 0) = true)) :
    aqStep q (l.drop k) = (unesc (l.getD (k + 1) 0), 2) := by
  rw [drop_cons (by omega), drop_cons (k := k + 1) (by omega), hc]
  simp only [aqStep]
  rw [if_neg (by simp), if_neg hq, if_neg]
  rintro ⟨h1, h2⟩
  apply hn
  refine ⟨h1, ?_⟩
  by_cases h3 : k + 3 < l.length
  · rw [drop_cons (k := k + 2) (by omega), drop_cons (k := k + 3) (by omega)] at h2
    simp only [hex2, Bool.and_eq_true] at h2
    exact ⟨h3, h2.1, h2.2⟩
  · by_cases h4 : k + 2 < l.length
    · rw [drop_cons (k := k + 1 + 1) (by omega), List.drop_eq_nil_of_le (by omega)] at h2
      simp [hex2] at h2
    · rw [List.drop_eq_nil_of_le (by omega)] at h2
      simp [hex2] at h2

/-- what has been taken so far is ahead of what is to come -/
def Aq (q : Int) (line : List Int) (i : Nat) (k : Nat) (W : List Int) : Prop := i + 1 ≤ k ∧ k ≤ line.length ∧ W.length ≤ k - (i + 1) ∧ aq q (line.drop (i + 1)) = ahead W (k - (i + 1)) (aq q (line.drop k))

theorem Aq.start {q : Int} {line : List Int} {i : Nat} (h : i < line.length) : Aq q line i (i + 1) [] := by
  refine ⟨Nat.le_refl _, h, by simp, ?_⟩
  simp [ahead]
theorem Aq.step {q : Int} {line : List Int} {i k m : Nat} {W : List Int} {x : Int} (h : Aq q line i k W) (hk : k < line.length) (hc : line.getD k 0 ≠ q) (hs : aqStep q (line.drop k) = (x, m)) : Aq q line i (k + m) (W ++ [x]) := by
  obtain ⟨h1, h2, h3, h4⟩ := h
  have hp := aqStep_pos q (line.drop k)
  have hle := aqStep_le q (line.getD k 0) (line.drop (k + 1))
  rw [← drop_cons hk] at hle
  rw [hs] at hp hle
  simp at hle hp
  refine ⟨by omega, by omega, by simp; omega, ?_⟩
  have e := aq_step hc (r := line.drop (k + 1)) (x := x) (n := m) (by rw [← drop_cons hk]; exact hs)
  rw [← drop_cons hk, List.drop_drop] at e
  rw [h4, e, ahead_ahead]
  congr 1
  omega
theorem Aq.stop {q : Int} {line : List Int} {i k : Nat} {W : List Int} (h : Aq q line i k W) (hk : k < line.length) (hc : line.getD k 0 = q) : aq q (line.drop (i + 1)) = (W, k + 1 - (i + 1), true) := by
  obtain ⟨h1, h2, h3, h4⟩ := h
  rw [h4, drop_cons hk, hc, aq_stop]
  simp [ahead]; omega
theorem Aq.fin {q : Int} {line : List Int} {i k : Nat} {W : List Int} (h : Aq q line i k W) (hk : line.length ≤ k) : aq q (line.drop (i + 1)) = (W, k - (i + 1), false) := by
  obtain ⟨h1, h2, h3, h4⟩ := h
  rw [h4, List.drop_eq_nil_of_le hk, aq_nil]
  simp [ahead]
end Go.Proofs.Qxb6608909aDoor
