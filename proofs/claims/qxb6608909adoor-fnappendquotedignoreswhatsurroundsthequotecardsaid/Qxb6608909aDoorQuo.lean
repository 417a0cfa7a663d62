/-
  THE PLAIN PART of the two laws on appendQuoted: no Go in sight. 'aq': what appendQuoted appends, how many bytes it takes, whether the quote closed. 'zm': the same of the automaton that reads a byte at a time. 'zm_aq': they agree.
-/
import Init
namespace Go.Proofs.Qxb6608909aDoor

def hexB (c : Int) : Bool := (decide (48 ≤ c) && decide (c ≤ 57)) || (decide (97 ≤ c) && decide (c ≤ 102)) || (decide (65 ≤ c) && decide (c ≤ 70))
def hexv (c : Int) : Int := if c ≤ 57 then c - 48 else if c ≤ 70 then c - 55 else c - 87
def unesc (c : Int) : Int := if c = 110 then 10 else if c = 114 then 13 else if c = 116 then 9 else if c = 98 then 8 else if c = 97 then 7 else c

/-- two hex digits at the head -/
def hex2 : List Int → Bool
  | h1 :: h2 :: _ => hexB h1 && hexB h2
  | _ => false
def hexval2 : List Int → Int
  | h1 :: h2 :: _ => hexv h1 * 16 + hexv h2
  | _ => 0

/-- one turn at a byte that is not the quote: the byte that is appended, how many bytes are taken -/
def aqStep (q : Int) : List Int → Int × Nat
  | [] => (0, 1)
  | [c] => (c, 1)
  | c :: d :: r =>
    if c ≠ 92 then (c, 1)
    else if q = 39 then (if d = 39 then (39, 2) else (92, 1))
    else if d = 120 ∧ hex2 r = true then (hexval2 r, 4)
    else (unesc d, 2)

def aqF (q : Int) : Nat → List Int → List Int × Nat × Bool
  | 0, _ => ([], 0, false)
  | _ + 1, [] => ([], 0, false)
  | f + 1, c :: r =>
    if c = q then ([], 1, true)
    else ((aqStep q (c :: r)).1 :: (aqF q f ((c :: r).drop (aqStep q (c :: r)).2)).1,
      (aqStep q (c :: r)).2 + (aqF q f ((c :: r).drop (aqStep q (c :: r)).2)).2.1, (aqF q f ((c :: r).drop (aqStep q (c :: r)).2)).2.2)
def aq (q : Int) (l : List Int) : List Int × Nat × Bool := aqF q l.length l

theorem aqStep_pos (q : Int) (l : List Int) : 1 ≤ (aqStep q l).2 := by
  match l with
  | [] => simp [aqStep]
  | [c] => simp [aqStep]
  | c :: d :: r =>
    simp only [aqStep]
    repeat' split
    all_goals simp
theorem aqStep_le (q : Int) (c : Int) (r : List Int) : (aqStep q (c :: r)).2 ≤ (c :: r).length := by
  match r with
  | [] => simp [aqStep]
  | d :: r =>
    simp only [aqStep]
    split
    · simp
    split
    · split <;> simp
    split
    · rename_i h
      match r, h with
      | [], h => simp [hex2] at h
      | [a], h => simp [hex2] at h
      | a :: b :: r', h => simp
    · simp

theorem aqF_fuel (q : Int) : ∀ (f g : Nat) (l : List Int), l.length ≤ f → l.length ≤ g → aqF q f l = aqF q g l
  | 0, 0, _, _, _ => rfl
  | 0, g + 1, [], _, _ => rfl
  | 0, g + 1, c :: r, h, _ => by simp at h
  | f + 1, 0, [], _, _ => rfl
  | f + 1, 0, c :: r, _, h => by simp at h
  | f + 1, g + 1, [], _, _ => rfl
  | f + 1, g + 1, c :: r, hf, hg => by
    have hp := aqStep_pos q (c :: r)
    have hl : ((c :: r).drop (aqStep q (c :: r)).2).length ≤ r.length := by simp; omega
    have ih := aqF_fuel q f g ((c :: r).drop (aqStep q (c :: r)).2) (by simp at hf; omega) (by simp at hg; omega)
    simp only [aqF]
    rw [ih]

theorem aq_nil (q : Int) : aq q [] = ([], 0, false) := rfl
theorem aq_stop (q : Int) (r : List Int) : aq q (q :: r) = ([], 1, true) := by simp [aq, aqF]
theorem aq_go {q c : Int} {r : List Int} (h : c ≠ q) : aq q (c :: r) =
    ((aqStep q (c :: r)).1 :: (aq q ((c :: r).drop (aqStep q (c :: r)).2)).1, (aqStep q (c :: r)).2 + (aq q ((c :: r).drop (aqStep q (c :: r)).2)).2.1, (aq q ((c :: r).drop (aqStep q (c :: r)).2)).2.2) := by
  have hp := aqStep_pos q (c :: r)
  have e := aqF_fuel q r.length ((c :: r).drop (aqStep q (c :: r)).2).length ((c :: r).drop (aqStep q (c :: r)).2) (by simp; omega) (Nat.le_refl _)
  unfold aq
  conv => lhs; rw [List.length_cons, aqF, if_neg h]
  rw [e]

/-! ### the automaton -/

/-- what a byte does to it: it stops (what is appended, whether this byte is taken) or goes on -/
def zmPlain (q c : Int) : (List Int × Nat) ⊕ (List Int × Nat) :=
  if c = q then .inl ([], 1) else if c = 92 then .inr ([], if q = 39 then 4 else 1) else .inr ([c], 0)

def zmPut (w : List Int) : (List Int × Nat) ⊕ (List Int × Nat) → (List Int × Nat) ⊕ (List Int × Nat)
  | .inl (x, k) => .inl (w ++ x, k)
  | .inr (x, s) => .inr (w ++ x, s)

def zmStep (q : Int) (st : Nat) (hd hv c : Int) : (List Int × Nat) ⊕ (List Int × Nat) :=
  if st = 1 then (if c = 120 then .inr ([], 2) else .inr ([unesc c], 0))
  else if st = 2 then (if hexB c = true then .inr ([], 3) else zmPut [120] (zmPlain q c))
  else if st = 3 then (if hexB c = true then .inr ([hv * 16 + hexv c], 0) else if hd = q then .inl ([120], 0) else zmPut [120, hd] (zmPlain q c))
  else if st = 4 then (if c = 39 then .inr ([39], 0) else zmPut [92] (zmPlain q c))
  else zmPlain q c

def zmEnd (q : Int) (st : Nat) (hd : Int) : List Int × Nat × Bool :=
  if st = 1 ∨ st = 4 then ([92], 0, false) else if st = 2 then ([120], 0, false)
  else if st = 3 then (if hd = q then ([120], 0, true) else ([120, hd], 0, false)) else ([], 0, false)

/-- the digit that is kept when state 3 is entered -/
def zmHd (st : Nat) (hd c : Int) : Int := if st = 2 ∧ hexB c = true then c else hd
def zmHv (st : Nat) (hv c : Int) : Int := if st = 2 ∧ hexB c = true then hexv c else hv

def zm (q : Int) : List Int → Nat → Int → Int → List Int × Nat × Bool
  | [], st, hd, _ => zmEnd q st hd
  | c :: r, st, hd, hv => match zmStep q st hd hv c with
    | .inl (x, k) => (x, k, true)
    | .inr (x, s) => (x ++ (zm q r s (zmHd st hd c) (zmHv st hv c)).1, 1 + (zm q r s (zmHd st hd c) (zmHv st hv c)).2.1, (zm q r s (zmHd st hd c) (zmHv st hv c)).2.2)

/-- bytes put ahead of an answer -/
def ahead (w : List Int) (n : Nat) (t : List Int × Nat × Bool) : List Int × Nat × Bool := (w ++ t.1, n + t.2.1, t.2.2)
theorem ahead_ahead (w v : List Int) (n m : Nat) (t : List Int × Nat × Bool) : ahead w n (ahead v m t) = ahead (w ++ v) (n + m) t := by
  simp [ahead, Nat.add_assoc]
theorem aq_step {q c : Int} {r : List Int} (h : c ≠ q) {x : Int} {n : Nat} (hs : aqStep q (c :: r) = (x, n)) : aq q (c :: r) = ahead [x] n (aq q ((c :: r).drop n)) := by
  rw [aq_go h, hs]; rfl

/-- the state 0 goes by the plain turn -/
theorem zm_zero (q c : Int) (r : List Int) (hd hv : Int) : zm q (c :: r) 0 hd hv = match zmPlain q c with
    | .inl (x, k) => (x, k, true)
    | .inr (x, s) => ahead x 1 (zm q r s hd hv) := by
  have h1 : zmHd 0 hd c = hd := by simp [zmHd]
  have h2 : zmHv 0 hv c = hv := by simp [zmHv]
  simp only [zm, zmStep, h1, h2]
  simp only [show ¬ (0 : Nat) = 1 by decide, show ¬ (0 : Nat) = 2 by decide, show ¬ (0 : Nat) = 3 by decide, show ¬ (0 : Nat) = 4 by decide, if_false]
  split <;> rfl
/-- a turn that puts w ahead of the plain turn -/
theorem zm_put {q c : Int} {r : List Int} {st : Nat} {hd hv : Int} {w : List Int} (h : zmStep q st hd hv c = zmPut w (zmPlain q c)) (hh : ¬ (st = 2 ∧ hexB c = true)) :
    zm q (c :: r) st hd hv = ahead w 0 (zm q (c :: r) 0 hd hv) := by
  have h1 : zmHd st hd c = hd := by simp [zmHd, hh]
  have h2 : zmHv st hv c = hv := by simp [zmHv, hh]
  rw [zm_zero]
  simp only [zm, h, h1, h2]
  cases zmPlain q c <;> simp [zmPut, ahead]
/-- a turn that goes on -/
theorem zm_on {q c : Int} {r : List Int} {st s : Nat} {hd hv : Int} {w : List Int} (h : zmStep q st hd hv c = .inr (w, s)) :
    zm q (c :: r) st hd hv = ahead w 1 (zm q r s (zmHd st hd c) (zmHv st hv c)) := by
  simp only [zm, h]; rfl

theorem hex_ne92 {c : Int} (h : hexB c = true) : c ≠ 92 := by
  rintro rfl; simp [hexB] at h

theorem zm_aq (q : Int) : ∀ (n : Nat) (l : List Int), l.length ≤ n → ∀ hd hv, zm q l 0 hd hv = aq q l := by
  intro n
  induction n with
  | zero =>
    intro l hl hd hv
    have : l = [] := List.length_eq_zero_iff.1 (by omega)
    subst this; rfl
  | succ n ih =>
    intro l hl hd hv
    match l, hl with
    | [], _ => rfl
    | c :: r, hl =>
      simp only [List.length_cons] at hl
      rw [zm_zero]
      by_cases hq : c = q
      · subst hq
        rw [aq_stop]
        simp [zmPlain]
      by_cases h92 : c = 92
      · subst h92
        match r, hl with
        | [], _ =>
          rw [aq_step hq (x := 92) (n := 1) (by simp [aqStep])]
          by_cases h39 : q = 39
          · simp [zmPlain, h39, zm, zmEnd, ahead, aq_nil]
          · simp [zmPlain, hq, h39, zm, zmEnd, ahead, aq_nil]
        | d :: r', hl =>
          simp only [List.length_cons] at hl
          by_cases h39 : q = 39
          · have e : zmPlain q 92 = .inr ([], 4) := by simp [zmPlain, h39]
            rw [e]
            simp only
            by_cases hd39 : d = 39
            · rw [aq_step hq (x := 39) (n := 2) (by simp [aqStep, h39, hd39]), zm_on (w := [39]) (s := 0) (by simp [zmStep, hd39]), ih r' (by omega)]
              simp [ahead]; omega
            · rw [aq_step hq (x := 92) (n := 1) (by simp [aqStep, h39, hd39]), zm_put (w := [92]) (by simp [zmStep, hd39]) (by simp), ih (d :: r') (by simp; omega)]
              simp [ahead]
          · have e : zmPlain q 92 = .inr ([], 1) := by simp [zmPlain, hq, h39]
            rw [e]
            simp only
            by_cases hx : d = 120
            · subst hx
              rw [zm_on (w := []) (s := 2) (by simp [zmStep])]
              match r', hl with
              | [], _ =>
                rw [aq_step hq (x := 120) (n := 2) (by simp [aqStep, h39, hex2, unesc])]
                simp [ahead, zm, zmEnd, aq_nil]
              | h1 :: r2, hl =>
                simp only [List.length_cons] at hl
                by_cases hh1 : hexB h1 = true
                · rw [zm_on (w := []) (s := 3) (by simp [zmStep, hh1])]
                  have ehd : ∀ y, zmHd 2 y h1 = h1 := fun y => by simp [zmHd, hh1]
                  have ehv : ∀ y, zmHv 2 y h1 = hexv h1 := fun y => by simp [zmHv, hh1]
                  rw [ehd, ehv]
                  match r2, hl with
                  | [], _ =>
                    rw [aq_step hq (x := 120) (n := 2) (by simp [aqStep, h39, hex2, unesc])]
                    by_cases hhq : h1 = q
                    · subst hhq
                      simp [ahead, zm, zmEnd, aq_stop]
                    · simp only [List.drop_succ_cons, List.drop_zero]
                      rw [aq_step hhq (x := h1) (n := 1) (by simp [aqStep])]
                      simp [ahead, zm, zmEnd, aq_nil, hhq]
                  | h2 :: r3, hl =>
                    simp only [List.length_cons] at hl
                    by_cases hh2 : hexB h2 = true
                    · rw [aq_step hq (x := hexv h1 * 16 + hexv h2) (n := 4) (by simp [aqStep, h39, hex2, hh1, hh2, hexval2]), zm_on (w := [hexv h1 * 16 + hexv h2]) (s := 0) (by simp [zmStep, hh2]), ih r3 (by omega)]
                      simp [ahead]; omega
                    · have hns : hex2 (h1 :: h2 :: r3) = false := by simp [hex2, hh2]
                      rw [aq_step hq (x := 120) (n := 2) (by simp [aqStep, h39, hns, unesc])]
                      simp only [List.drop_succ_cons, List.drop_zero]
                      by_cases hhq : h1 = q
                      · subst hhq
                        rw [aq_stop]
                        simp [zm, zmStep, hh2, ahead]
                      · rw [aq_step hhq (x := h1) (n := 1) (by simp [aqStep, hex_ne92 hh1]), zm_put (w := [120, h1]) (by simp [zmStep, hh2, hhq]) (by simp), ih (h2 :: r3) (by simp; omega)]
                        simp [ahead]; omega
                · rw [zm_put (w := [120]) (by simp [zmStep, hh1]) (by simp [hh1]), ih (h1 :: r2) (by simp; omega)]
                  have hns : hex2 (h1 :: r2) = false := by cases r2 <;> simp [hex2, hh1]
                  rw [aq_step hq (x := 120) (n := 2) (by simp [aqStep, h39, hns, unesc])]
                  simp [ahead]; omega
            · rw [aq_step hq (x := unesc d) (n := 2) (by simp [aqStep, h39, hx]), zm_on (w := [unesc d]) (s := 0) (by simp [zmStep, hx]), ih r' (by omega)]
              simp [ahead]; omega
      · have e : zmPlain q c = .inr ([c], 0) := by simp [zmPlain, hq, h92]
        rw [e]
        simp only
        rw [ih r (by omega), aq_step hq (x := c) (n := 1) (by cases r <;> simp [aqStep, h92])]
        simp
end Go.Proofs.Qxb6608909aDoor
