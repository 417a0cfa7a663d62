/- Three plain laws of 'aq': what stands behind a closed quote changes nothing; an open one takes all; without a backslash the bytes are taken as they are. -/
import Derived.Test.Qxb6608909aDoorQuoIx
namespace Go.Proofs.Qxb6608909aDoor

theorem aq_cons {q c : Int} {r : List Int} (h : c ≠ q) : aq q (c :: r) = ahead [(aqStep q (c :: r)).1] (aqStep q (c :: r)).2 (aq q ((c :: r).drop (aqStep q (c :: r)).2)) := by
  rw [aq_go h]; rfl

theorem aq_openF (q : Int) : ∀ (n : Nat) (l : List Int), l.length ≤ n → (aq q l).2.2 = false → (aq q l).2.1 = l.length
  | _, [], _, _ => rfl
  | 0, c :: r, hl, _ => by simp at hl
  | n + 1, c :: r, hl, h => by
    by_cases hq : c = q
    · subst hq; rw [aq_stop] at h; cases h
    · have hp := aqStep_pos q (c :: r)
      have hle := aqStep_le q c r
      rw [aq_cons hq] at h ⊢
      have ih := aq_openF q n ((c :: r).drop (aqStep q (c :: r)).2) (by simp at hl ⊢; omega) h
      show (aqStep q (c :: r)).2 + (aq q ((c :: r).drop (aqStep q (c :: r)).2)).2.1 = (c :: r).length
      rw [ih, List.length_drop]
      omega
theorem aq_open (q : Int) (l : List Int) (h : (aq q l).2.2 = false) : (aq q l).2.1 = l.length := aq_openF q l.length l (Nat.le_refl _) h

theorem step_ext {q c : Int} {r t : List Int} (hq : q = 34 ∨ q = 39) (h : (aq q ((c :: r).drop (aqStep q (c :: r)).2)).2.2 = true) : aqStep q (c :: r ++ t) = aqStep q (c :: r) := by
  match r, h with
  | [], h => simp [aqStep, aq_nil] at h
  | d :: r', h =>
    simp only [List.cons_append, aqStep] at h ⊢
    by_cases hc : c ≠ 92
    · rw [if_pos hc, if_pos hc]
    rw [if_neg hc] at h ⊢
    rw [if_neg hc]
    by_cases h39 : q = 39
    · rw [if_pos h39, if_pos h39]
    rw [if_neg h39] at h ⊢
    rw [if_neg h39]
    have hq34 : q = 34 := by rcases hq with h' | h'; exact h'; exact absurd h' h39
    have e : hex2 (r' ++ t) = hex2 r' ∨ ¬ d = 120 := by
      by_cases hd : d = 120
      · left
        match r', h with
        | [], h => simp [hd, hex2, aq_nil] at h
        | [h1], h =>
          have hf : ¬ (d = 120 ∧ hex2 [h1] = true) := by simp [hex2]
          rw [if_neg hf] at h
          simp only [List.drop_succ_cons, List.drop_zero] at h
          by_cases h1q : h1 = q
          · have : hexB h1 = false := by rw [h1q, hq34]; rfl
            cases t <;> simp [hex2, this]
          · rw [aq_step h1q (x := h1) (n := 1) (by simp [aqStep])] at h
            simp [ahead, aq_nil] at h
        | h1 :: h2 :: r2, h => rfl
      · right; exact hd
    rcases e with e | e
    · have e2 : hexval2 (r' ++ t) = hexval2 r' ∨ hex2 r' = false := by
        match r' with
        | [] => right; rfl
        | [a] => right; rfl
        | a :: b :: r2 => left; rfl
      rw [e]
      by_cases hx : d = 120 ∧ hex2 r' = true
      · rw [if_pos hx, if_pos hx]
        rcases e2 with e2 | e2
        · rw [e2]
        · rw [e2] at hx; simp at hx
      · rw [if_neg hx, if_neg hx]
    · rw [if_neg (fun h => e h.1), if_neg (fun h => e h.1)]

theorem aq_extF (q : Int) (hq : q = 34 ∨ q = 39) (t : List Int) : ∀ (n : Nat) (l : List Int), l.length ≤ n → (aq q l).2.2 = true → aq q (l ++ t) = aq q l
  | _, [], _, h => by simp [aq_nil] at h
  | 0, c :: r, hl, _ => by simp at hl
  | n + 1, c :: r, hl, h => by
    by_cases hcq : c = q
    · subst hcq
      rw [List.cons_append, aq_stop, aq_stop]
    · have hp := aqStep_pos q (c :: r)
      have hle := aqStep_le q c r
      rw [aq_cons hcq] at h
      have hs := step_ext (t := t) hq h
      have ih := aq_extF q hq t n ((c :: r).drop (aqStep q (c :: r)).2) (by simp at hl ⊢; omega) h
      rw [List.cons_append] at hs
      rw [List.cons_append, aq_cons hcq, aq_cons hcq, hs, ← List.cons_append, List.drop_append_of_le_length hle, ih]
theorem aq_ext {q : Int} (hq : q = 34 ∨ q = 39) (l t : List Int) (h : (aq q l).2.2 = true) : aq q (l ++ t) = aq q l := aq_extF q hq t l.length l (Nat.le_refl _) h

theorem aq_plain (q : Int) : ∀ (m : Nat) (l : List Int), m ≤ l.length → (∀ j, j < m → l.getD j 0 ≠ q ∧ l.getD j 0 ≠ 92) → (m < l.length → l.getD m 0 = q) →
    aq q l = (l.take m, (if m < l.length then m + 1 else l.length), decide (m < l.length))
  | 0, [], _, _, _ => rfl
  | 0, c :: r, _, _, h => by
    have := h (by simp)
    simp at this
    subst this
    rw [aq_stop]; simp
  | m + 1, [], hm, _, _ => by simp at hm
  | m + 1, c :: r, hm, h1, h2 => by
    have hc := h1 0 (by omega)
    simp at hc
    have ih := aq_plain q m r (by simpa using hm) (fun j hj => by have := h1 (j + 1) (by omega); simpa using this) (fun hj => by have := h2 (by simpa using hj); simpa using this)
    rw [aq_step hc.1 (x := c) (n := 1) (by cases r <;> simp [aqStep, hc.2])]
    simp only [List.drop_succ_cons, List.drop_zero]
    rw [ih]
    simp only [ahead, List.take_succ_cons, List.cons_append, List.nil_append, List.length_cons, Nat.add_lt_add_iff_right, Prod.mk.injEq, true_and]
    refine ⟨?_, trivial⟩
    split <;> omega
end Go.Proofs.Qxb6608909aDoor
