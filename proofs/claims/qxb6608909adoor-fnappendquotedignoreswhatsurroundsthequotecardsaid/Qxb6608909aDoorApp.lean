import Derived.Test.Qxb6608909aDoorBase
import Derived.Laws.AppendOwnNone
import Derived.ArgAppend
namespace Go.Proofs.Qxb6608909aDoor
open Go.RowKit

/-- v is a row of bytes of the call's own, from block B on, and holds xs -/
def Own (B : Nat) (w : World) (v : Value) (xs : List Int) : Prop := w.ownsRow B 5 1 v xs.length (xs.map (Value.int .u8))
/-- v reads as xs, and an append to it writes nothing below B: a row of the call's own, or a slice without spare room -/
def Buf (B : Nat) (w : World) (v : Value) (xs : List Int) : Prop := Own B w v xs ∨ ∃ ao, v = .slice ao xs.length xs.length ∧ Rd B w v xs

theorem Own.rd {B : Nat} {w : World} {v : Value} {xs : List Int} (h : Own B w v xs) (hl : xs.length ≤ 140737488355328) : Rd w.heap.size w v xs := Rd_own h hl
theorem Own.le {B B' : Nat} {w : World} {v : Value} {xs : List Int} (h : Own B w v xs) (hB : B' ≤ B) : Own B' w v xs := by
  refine ⟨h.1, ?_⟩
  rcases h.2 with h1 | ⟨g, cap, cur, h1, h2, h3⟩
  · exact .inl h1
  · exact .inr ⟨g, cap, cur, h1, by omega, h3⟩
theorem Own.slice {B : Nat} {w : World} {v : Value} {xs : List Int} (h : Own B w v xs) : ∃ ao cap, v = .slice ao xs.length cap := by
  rcases h.2 with ⟨h1, h2⟩ | ⟨g, cap, cur, h1, h2, h3⟩
  · exact ⟨none, 0, by rw [h1, h2]⟩
  · exact ⟨_, cap, h1⟩

theorem cells_rd {B : Nat} {w : World} {ad : Addr} {n cap : Nat} {ys : List Int} (h : Rd B w (.slice (some ad) n cap) ys) : ∀ j u, (ys.map (Value.int .u8))[j]? = some u → w.cell? (ad.add j) = some u := by
  obtain ⟨ao, cap', e, -, -, -, hc⟩ := h
  simp only [Value.slice.injEq] at e
  obtain ⟨rfl, rfl, rfl⟩ := e
  intro j u hj
  rw [List.getElem?_map] at hj
  by_cases hjl : j < ys.length
  · obtain ⟨b, off, e, -, hx⟩ := hc j hjl
    simp only [Option.some.injEq] at e
    subst e
    have e2 : ys[j]? = some (ys.getD j 0) := by rw [List.getElem?_eq_getElem hjl, List.getD_eq_getElem?_getD, List.getElem?_eq_getElem hjl]; rfl
    rw [e2] at hj
    simp only [Option.map_some, Option.some.injEq] at hj
    rw [← hj, Addr.add_lit]
    exact hx
  · rw [List.getElem?_eq_none (by omega)] at hj; simp at hj

theorem grown_below {B : Nat} {w0 w w' : World} {v : Value} {xs : List Int} (hown : Own B w v xs) (hbel : Below B w0 w) (hg : w.grownBy w' v.ownBlock) (hB : B ≤ w.heap.size) : Below B w0 w' :=
  hbel.grown hg hB fun k hk => (World.ownsRow.lt hown k hk).1

/-- 'append(out, ys...)', out a row of the call's own -/
theorem wpAppOwn {ops : Array Oper} {rest : List Oper} {o : Oper} {a : Act} {w : World} {Q : Exit → Act → World → Prop} (hgd : o.guard = none) (s x : Operand)
    (ho : o.op = .call { callee := .builtin .append, args := #[s, x], argTypes := #[22, 22] }) (B Bs : Nat) (xs ys : List Int) (v sv : Value) (hs : a.eval s = v) (hx : a.eval x = sv)
    (hown : Own B w v xs) (hsv : Rd Bs w sv ys) (hlim : xs.length + ys.length ≤ 140737488355328) (hB : B ≤ w.heap.size) (w0 : World) (hbel : Below B w0 w)
    (h : ∀ v' w', Own B w' v' (xs ++ ys) → Below B w0 w' → (v' = .slice none 0 0 ↔ v = .slice none 0 0 ∧ ys = []) → wpList Tryd.prog ops Q rest (a.put o.dst v') w') : wpList Tryd.prog ops Q (o :: rest) a w := by
  obtain ⟨i0, hi, hz0, hz1, hz2⟩ := info_parts info5
  have hsv' := hsv
  obtain ⟨ao, cap, rfl, hl, hm, hn, hc⟩ := hsv
  cases ao with
  | none =>
    have e1 := hn rfl
    subst e1
    have e3 : ys = [] := List.length_eq_zero_iff.1 (by omega)
    subst e3
    refine wpList_append_own_none hgd s x 22 ho B 5 i0 1 Tryd.underlying22 hi v _ _ hs hown hx ?_
    exact h v w (by rw [List.append_nil]; exact hown) hbel (by simp)
  | some ad =>
    refine wpList_append_own w hgd s x 22 ho B 5 i0 (.int .u8 0) 1 1 Tryd.underlying22 hi hz0 hz1 hz2 rfl (by decide) v _ _ hs hown ad ys.length cap (ys.map (Value.int .u8)) hx (by simp) (cells_rd hsv') (ints_oneCell _ _) (by unfold maxLen; omega) (by omega) hB ?_
    intro v' w' h1 h2 h3
    refine h v' w' ?_ (grown_below hown hbel h2 hB) (by rw [h3, List.length_eq_zero_iff])
    unfold Own
    rw [List.length_append, List.map_append]
    exact h1

/-- 'append(out, ys...)', ys not empty, out a row of the call's own or a slice without spare room -/
theorem wpAppBuf {ops : Array Oper} {rest : List Oper} {o : Oper} {a : Act} {w : World} {Q : Exit → Act → World → Prop} (hgd : o.guard = none) (s x : Operand)
    (ho : o.op = .call { callee := .builtin .append, args := #[s, x], argTypes := #[22, 22] }) (B Bs : Nat) (xs ys : List Int) (v sv : Value) (hs : a.eval s = v) (hx : a.eval x = sv)
    (hbuf : Buf B w v xs) (hsv : Rd Bs w sv ys) (hne : 0 < ys.length) (hlim : xs.length + ys.length ≤ 140737488355328) (hB : B ≤ w.heap.size) (w0 : World) (hbel : Below B w0 w)
    (h : ∀ v' w', Own B w' v' (xs ++ ys) → Below B w0 w' → wpList Tryd.prog ops Q rest (a.put o.dst v') w') : wpList Tryd.prog ops Q (o :: rest) a w := by
  rcases hbuf with hown | ⟨ao, rfl, hrd⟩
  · exact wpAppOwn hgd s x ho B Bs xs ys v sv hs hx hown hsv hlim hB w0 hbel fun v' w' h1 h2 _ => h v' w' h1 h2
  obtain ⟨i0, hi, hz0, hz1, hz2⟩ := info_parts info5
  have hsv' := hsv
  obtain ⟨aos, cap, rfl, hl, hm, hn, hc⟩ := hsv
  cases aos with
  | none => have := hn rfl; omega
  | some ad =>
    have hrd' := hrd
    obtain ⟨ao', cap', e, hl', hm', hn', hc'⟩ := hrd
    simp only [Value.slice.injEq, true_and] at e
    obtain ⟨rfl, rfl⟩ := e
    refine wpList_append_grows w hgd s x 22 ho 5 i0 (.int .u8 0) 1 1 Tryd.underlying22 hi hz0 hz1 hz2 rfl (by decide) ao xs.length xs.length (xs.map (Value.int .u8)) hs (fun e => ⟨hn' e, hn' e⟩) (by simp) ?_ ad ys.length cap (ys.map (Value.int .u8)) hx (by simp) (cells_rd hsv') (ints_oneCell _ _) (by omega) (by unfold maxLen; omega) (by omega) ?_
    · rintro b rfl
      exact cells_rd hrd'
    · intro v' w' h1 h2
      refine h v' w' ?_ (hbel.grown h2 hB (by simp))
      refine Own.le (B := w.heap.size) ?_ hB
      unfold Own
      rw [List.length_append, List.map_append]
      exact h1

theorem Rd_new1 (w : World) (c : Int) : Rd (w.heap.size + 1) (w.alloc (.cells #[.int .u8 c] 5)) (.slice (some ⟨w.heap.size, 0, none⟩) 1 1) [c] := by
  refine ⟨_, 1, rfl, by simp, by simp, (by simp), fun k hk => ⟨w.heap.size, 0, rfl, by omega, ?_⟩⟩
  have : k = 0 := by simp at hk; omega
  subst this
  simp
theorem Rd_new2 (w : World) (c d : Int) : Rd (w.heap.size + 1) (w.alloc (.cells #[.int .u8 c, .int .u8 d] 5)) (.slice (some ⟨w.heap.size, 0, none⟩) 2 2) [c, d] := by
  refine ⟨_, 2, rfl, by simp, by simp, (by simp), fun k hk => ⟨w.heap.size, 0, rfl, by omega, ?_⟩⟩
  have : k = 0 ∨ k = 1 := by simp at hk; omega
  rcases this with rfl | rfl <;> simp

theorem Own.alloc {B : Nat} {w : World} {v : Value} {xs : List Int} (h : Own B w v xs) (o : Obj) : Own B (w.alloc o) v xs := World.ownsRow.alloc h o
theorem Buf.alloc {B : Nat} {w : World} {v : Value} {xs : List Int} (h : Buf B w v xs) (hB : B ≤ w.heap.size) (o : Obj) : Buf B (w.alloc o) v xs := by
  rcases h with h | ⟨ao, h1, h2⟩
  · exact .inl (h.alloc o)
  · exact .inr ⟨ao, h1, h2.below ((Below.refl _ _).alloc hB o)⟩
end Go.Proofs.Qxb6608909aDoor
