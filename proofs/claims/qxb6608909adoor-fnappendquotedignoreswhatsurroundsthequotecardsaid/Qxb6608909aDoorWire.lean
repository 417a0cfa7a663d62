import Derived.Test.Qxb6608909aDoorNum
namespace Go.Proofs.Qxb6608909aDoor

theorem dec_small {m : Nat} (h : m < 10) : dec m = [48 + (m : Int)] := by
  unfold dec
  rw [Lib.decDigits, dif_pos h]
  have : (UInt8.ofNat (48 + m)).toNat = 48 + m := by
    simp [UInt8.toNat_ofNat']; omega
  simp only [List.map_cons, List.map_nil, this]
  simp
theorem dec_big {m : Nat} (h : ¬ m < 10) : dec m = dec (m / 10) ++ [48 + ((m % 10 : Nat) : Int)] := by
  unfold dec
  conv => lhs; rw [Lib.decDigits, dif_neg h]
  have : (UInt8.ofNat (48 + m % 10)).toNat = 48 + m % 10 := by
    simp [UInt8.toNat_ofNat']; omega
  rw [List.map_append]
  simp only [List.map_cons, List.map_nil, this]
  simp

theorem getD_app_left {l r : List Int} {j : Nat} (h : j < l.length) : (l ++ r).getD j 0 = l.getD j 0 := by
  rw [List.getD_eq_getElem?_getD, List.getD_eq_getElem?_getD, List.getElem?_append_left h]
theorem getD_app_right {l r : List Int} {j : Nat} : (l ++ r).getD (l.length + j) 0 = r.getD j 0 := by
  rw [List.getD_eq_getElem?_getD, List.getD_eq_getElem?_getD, List.getElem?_append_right (by omega)]
  simp

theorem dec_digits (m : Nat) : ∀ j, j < (dec m).length → 48 ≤ (dec m).getD j 0 ∧ (dec m).getD j 0 ≤ 57 := by
  induction m using Nat.strongRecOn with
  | _ m ih =>
    by_cases h : m < 10
    · rw [dec_small h]
      intro j hj
      have : j = 0 := by simp at hj; omega
      subst this
      simp; omega
    · rw [dec_big h]
      intro j hj
      by_cases hlt : j < (dec (m / 10)).length
      · rw [getD_app_left hlt]; exact ih (m / 10) (by omega) j hlt
      · have : j = (dec (m / 10)).length + 0 := by simp at hj; omega
        rw [this, getD_app_right]
        simp; omega
theorem dec_pos (m : Nat) : 1 ≤ (dec m).length := by
  by_cases h : m < 10
  · rw [dec_small h]; simp
  · rw [dec_big h]; simp
theorem dec_val (m : Nat) : numv (dec m) = m := by
  induction m using Nat.strongRecOn with
  | _ m ih =>
    by_cases h : m < 10
    · rw [dec_small h]; simp [numv]; omega
    · rw [dec_big h, numv_snoc, ih (m / 10) (by omega)]; omega
theorem dec_lead (m : Nat) : 1 < (dec m).length → (dec m).getD 0 0 ≠ 48 := by
  induction m using Nat.strongRecOn with
  | _ m ih =>
    by_cases h : m < 10
    · rw [dec_small h]; simp
    · intro _
      rw [dec_big h, getD_app_left (by have := dec_pos (m / 10); omega)]
      by_cases h2 : m / 10 < 10
      · rw [dec_small h2]; simp; omega
      · exact ih (m / 10) (by omega) (by rw [dec_big h2]; have := dec_pos (m / 10 / 10); simp; omega)
theorem dec_lenle : ∀ (k m : Nat), m < 10 ^ (k + 1) → (dec m).length ≤ k + 1
  | 0, m, h => by rw [dec_small (by simpa using h)]; simp
  | k + 1, m, h => by
    by_cases h10 : m < 10
    · rw [dec_small h10]; simp
    · rw [dec_big h10]
      have := dec_lenle k (m / 10) (by rw [Nat.pow_succ] at h; omega)
      simp; omega
theorem dec_nine (m : Nat) (h : m < 1000000000) : (dec m).length ≤ 9 := dec_lenle 8 m (by simpa using h)

theorem num_at (A C : List Int) (c : Int) (m : Nat) (h : m < 1000000000) : NumAt (A ++ (hdr c m ++ C)) (A.length + 1) (dec m) := by
  have e : A ++ (hdr c m ++ C) = (A ++ [c]) ++ (dec m ++ ([13, 10] ++ C)) := by unfold hdr; simp
  have hl : A.length + 1 = (A ++ [c]).length := by simp
  rw [e, hl]
  refine ⟨by simp; omega, ?_, ?_, ?_, dec_digits m, dec_pos m, dec_nine m h, dec_lead m⟩
  · intro j hj
    rw [getD_app_right, getD_app_left hj]
  · rw [getD_app_right]
    have := @getD_app_right (dec m) ([13, 10] ++ C) 0
    rw [Nat.add_zero] at this
    rw [this]; rfl
  · rw [Nat.add_assoc, getD_app_right, getD_app_right]; rfl

/-- where the k-th bulk string begins -/
def pos (ess : List (List Int)) (k : Nat) : Nat := (hdr 42 ess.length).length + (bulks (ess.take k)).length

theorem wire_cut (ess : List (List Int)) (k : Nat) (h : k < ess.length) :
    wire ess = (hdr 42 ess.length ++ bulks (ess.take k)) ++ (bulk (ess.getD k []) ++ bulks (ess.drop (k + 1))) := by
  unfold wire
  have e : ess = ess.take k ++ (ess.getD k [] :: ess.drop (k + 1)) := by
    conv => lhs; rw [← List.take_append_drop (k + 1) ess, take_snocL ess k h]
    simp
  have e2 : bulks ess = bulks (ess.take k) ++ (bulk (ess.getD k []) ++ bulks (ess.drop (k + 1))) := by
    conv => lhs; rw [e]
    unfold bulks; simp
  rw [e2, List.append_assoc]
theorem pos_succ (ess : List (List Int)) (k : Nat) (h : k < ess.length) : pos ess (k + 1) = pos ess k + 1 + (dec (ess.getD k []).length).length + 2 + (ess.getD k []).length + 2 := by
  unfold pos
  rw [bulks_take ess k h]
  unfold bulk hdr
  simp only [List.length_append, List.length_cons, List.length_nil]; omega
theorem pos_end (ess : List (List Int)) : pos ess ess.length = (wire ess).length := by
  unfold pos wire
  rw [List.take_length, List.length_append]
/-- what stands at the k-th bulk string -/
structure BulkAt (xs : List Int) (p : Nat) (e : List Int) : Prop where
  dollar : xs.getD p 0 = 36
  num : NumAt xs (p + 1) (dec e.length)
  fits : p + 1 + (dec e.length).length + 2 + e.length + 2 ≤ xs.length
  body : ∀ j, j < e.length → xs.getD (p + 1 + (dec e.length).length + 2 + j) 0 = e.getD j 0
  cr : xs.getD (p + 1 + (dec e.length).length + 2 + e.length) 0 = 13
  lf : xs.getD (p + 1 + (dec e.length).length + 2 + e.length + 1) 0 = 10
theorem bulk_at (A C : List Int) (e : List Int) (h : e.length < 1000000000) : BulkAt (A ++ (bulk e ++ C)) A.length e := by
  have e1 : A ++ (bulk e ++ C) = A ++ (hdr 36 e.length ++ (e ++ ([13, 10] ++ C))) := by unfold bulk; simp
  have hn := num_at A (e ++ ([13, 10] ++ C)) 36 e.length h
  have hl : A.length + 1 + (dec e.length).length + 2 = (A ++ hdr 36 e.length).length := by unfold hdr; simp; omega
  have e2 : A ++ (hdr 36 e.length ++ (e ++ ([13, 10] ++ C))) = (A ++ hdr 36 e.length) ++ (e ++ ([13, 10] ++ C)) := by rw [List.append_assoc]
  rw [e1]
  refine ⟨?_, hn, ?_, ?_, ?_, ?_⟩
  · have := @getD_app_right A (hdr 36 e.length ++ (e ++ ([13, 10] ++ C))) 0
    rw [Nat.add_zero] at this
    rw [this]; rfl
  · rw [hl, e2]; simp; omega
  · intro j hj
    rw [hl, e2, getD_app_right, getD_app_left hj]
  · rw [hl, e2, getD_app_right]
    have := @getD_app_right e ([13, 10] ++ C) 0
    rw [Nat.add_zero] at this
    rw [this]; rfl
  · rw [hl, e2, Nat.add_assoc, getD_app_right, getD_app_right]; rfl
theorem wire_at (ess : List (List Int)) (k : Nat) (h : k < ess.length) (hl : (ess.getD k []).length < 1000000000) : BulkAt (wire ess) (pos ess k) (ess.getD k []) := by
  rw [wire_cut ess k h]
  have : pos ess k = (hdr 42 ess.length ++ bulks (ess.take k)).length := by unfold pos; simp
  rw [this]
  exact bulk_at _ _ _ hl
theorem wire_num (ess : List (List Int)) (h : ess.length < 1000000000) : NumAt (wire ess) 1 (dec ess.length) := by
  have := num_at [] (bulks ess) 42 ess.length h
  simpa [wire] using this
theorem wire_head (ess : List (List Int)) : (wire ess).getD 0 0 = 42 := by unfold wire hdr; rfl
theorem wire_pos0 (ess : List (List Int)) : pos ess 0 = 1 + (dec ess.length).length + 2 := by
  unfold pos hdr bulks
  simp only [List.take_zero, List.flatMap_nil, List.length_nil, List.length_append, List.length_cons]; omega
end Go.Proofs.Qxb6608909aDoor
