import Derived.Test.Qxb6609120aDoorRows
import Derived.WalkKit
import Derived.WalkSpells
import Derived.WalkLawsBesides
import Derived.Deep.QuietTactic
import Derived.BigQuiet
import Derived.Laws.CopyOwn
import Derived.Laws.AppendOwnNone
import Derived.ArgAppend
import Derived.Lib.SmallJoins
namespace Go.Proofs.Qxb6609120aDoor
open Go.RowKit Go.Joins

theorem hid {p : Prop} (h : p) : Hid p := h

/-- the slice value v reads, in the world w, as the numbers xs of kind K; its cells lie in blocks below B -/
def Rd (K : IntKind) (B : Nat) (w : World) (v : Value) (xs : List Int) : Prop :=
  ∃ ao cap, v = .slice ao xs.length cap ∧ xs.length ≤ cap ∧ (xs.length ≤ 140737488355328 ∧ cap ≤ 9223372036854775807) ∧ (ao = none → cap = 0) ∧
    ∀ k, k < xs.length → ∃ b off, ao = some ⟨b, off, none⟩ ∧ b < B ∧ w.cell? ⟨b, off + k, none⟩ = some (.int K (xs.getD k 0))

theorem ret_bool {a b : Bool} (h : a = b) : Ending.returned (.bool a) = .returned (.bool b) := by rw [h]

section
variable {K : IntKind}
theorem Rd.mono {B B' : Nat} {w : World} {v : Value} {xs : List Int} (h : Rd K B w v xs) (hB : B ≤ B') : Rd K B' w v xs := by
  obtain ⟨ao, cap, h1, h2, h3, h4, h5⟩ := h
  refine ⟨ao, cap, h1, h2, h3, h4, fun k hk => ?_⟩
  obtain ⟨b, off, e, hb, hc⟩ := h5 k hk
  exact ⟨b, off, e, by omega, hc⟩
theorem Rd.below {B : Nat} {w w' : World} {v : Value} {xs : List Int} (h : Rd K B w v xs) (hb : Below B w w') : Rd K B w' v xs := by
  obtain ⟨ao, cap, h1, h2, h3, h4, h5⟩ := h
  refine ⟨ao, cap, h1, h2, h3, h4, fun k hk => ?_⟩
  obtain ⟨b, off, e, hlt, hc⟩ := h5 k hk
  exact ⟨b, off, e, hlt, (hb.cell (p := ⟨b, off + k, none⟩) hlt).trans hc⟩
theorem Rd.on {w w' : World} {v : Value} {xs : List Int} (h : Rd K w.heap.size w v xs) (hb : Below w.heap.size w w') : Rd K w'.heap.size w' v xs := (h.below hb).mono hb.size
theorem Rd.drewN {B : Nat} {w : World} {v : Value} {xs : List Int} (h : Rd K B w v xs) (n : Nat) : Rd K B (w.drewN n) v xs := h
theorem below_on {w w' w2 : World} (h : Below w.heap.size w w') (hb : Below w'.heap.size w' w2) : Below w.heap.size w w2 := h.trans (hb.mono h.size)

/-- the cells of a slice that is not empty -/
theorem Rd.cells {B : Nat} {w : World} {v : Value} {xs : List Int} (h : Rd K B w v xs) (h0 : 0 < xs.length) :
    ∃ b off cap, v = .slice (some ⟨b, off, none⟩) xs.length cap ∧ xs.length ≤ cap ∧ (xs.length ≤ 140737488355328 ∧ cap ≤ 9223372036854775807) ∧ b < B ∧ ∀ k, k < xs.length → w.cell? ⟨b, off + k, none⟩ = some (.int K (xs.getD k 0)) := by
  obtain ⟨ao, cap, rfl, hl, hm, -, hc⟩ := h
  obtain ⟨b, off, rfl, hb, -⟩ := hc 0 h0
  refine ⟨b, off, cap, rfl, hl, hm, hb, fun k hk => ?_⟩
  obtain ⟨b', off', e, -, h⟩ := hc k hk
  simp only [Option.some.injEq, Addr.mk.injEq] at e
  obtain ⟨rfl, rfl, -⟩ := e
  exact h

theorem cells_rd {B : Nat} {w : World} {ad : Addr} {n cap : Nat} {ys : List Int} (h : Rd K B w (.slice (some ad) n cap) ys) : ∀ j u, (ys.map (Value.int K))[j]? = some u → w.cell? (ad.add j) = some u := by
  obtain ⟨ao, cap', e, -, -, -, hc⟩ := h
  simp only [Value.slice.injEq] at e
  obtain ⟨rfl, rfl, rfl⟩ := e
  intro j u hj
  rw [List.getElem?_map] at hj
  by_cases hjl : j < ys.length
  · obtain ⟨b, off, e, -, hx⟩ := hc j hjl
    simp only [Option.some.injEq] at e
    subst e
    have e2 : ys[j]? = some (ys.getD j 0) := by rw [List.getElem?_eq_getElem hjl, List.getD_eq_getElem?_getD, List.getElem?_eq_getElem hjl]; rfl
    rw [e2] at hj
    simp only [Option.map_some, Option.some.injEq] at hj
    rw [← hj, Addr.add_lit]
    exact hx
  · rw [List.getElem?_eq_none (by omega)] at hj; simp at hj

/-- v is a row of the call's own, from block B on, of elements of type E and kind K, and holds xs -/
def Own (E : TypeId) (K : IntKind) (B : Nat) (w : World) (v : Value) (xs : List Int) : Prop := w.ownsRow B E 1 v xs.length (xs.map (Value.int K))

theorem Own.rd {E : TypeId} {B : Nat} {w : World} {v : Value} {xs : List Int} (h : Own E K B w v xs) (hl : xs.length ≤ 140737488355328) : Rd K w.heap.size w v xs := by
  have h0 := h
  rcases h.2 with ⟨rfl, he⟩ | ⟨g, cap, cur, rfl, hb, hg, h1, h2, h3, h4⟩
  · exact ⟨none, 0, by rw [he], by omega, ⟨by omega, by omega⟩, fun _ => rfl, fun k hk => by omega⟩
  · refine ⟨some ⟨g, 0, none⟩, cap, rfl, h1, ⟨hl, by unfold maxLen at h2; omega⟩, (by simp), fun k hk => ⟨g, 0, rfl, (Array.getElem?_eq_some_iff.1 hg).1, ?_⟩⟩
    have := World.ownsRow.cells h0 (g := g) rfl k (.int K (xs.getD k 0)) (by rw [List.getElem?_map, List.getElem?_eq_getElem hk, List.getD_eq_getElem?_getD, List.getElem?_eq_getElem hk]; rfl)
    rw [Addr.add_lit] at this
    exact this
theorem Own.le {E : TypeId} {B B' : Nat} {w : World} {v : Value} {xs : List Int} (h : Own E K B w v xs) (hB : B' ≤ B) : Own E K B' w v xs := by
  refine ⟨h.1, ?_⟩
  rcases h.2 with h1 | ⟨g, cap, cur, h1, h2, h3⟩
  · exact .inl h1
  · exact .inr ⟨g, cap, cur, h1, by omega, h3⟩
theorem Own.alloc {E : TypeId} {B : Nat} {w : World} {v : Value} {xs : List Int} (h : Own E K B w v xs) (o : Obj) : Own E K B (w.alloc o) v xs := World.ownsRow.alloc h o
theorem own_nil (E : TypeId) (B : Nat) (w : World) : Own E K B w (.slice none 0 0) [] := World.ownsRow_nil _ _ _ _
theorem grown_below {E : TypeId} {B : Nat} {w0 w w' : World} {v : Value} {xs : List Int} (hown : Own E K B w v xs) (hbel : Below B w0 w) (hg : w.grownBy w' v.ownBlock) (hB : B ≤ w.heap.size) : Below B w0 w' :=
  hbel.grown hg hB fun k hk => (World.ownsRow.lt hown k hk).1

/-- 'append(out, ys...)', out a row of the call's own -/
theorem wpAppOwn {T E : TypeId} {bytes : Nat} (hT : Tryd.prog.underlying T = some (.slice E)) (hinfo : (Tryd.prog.info? E).map (fun i => (i.zero, i.size, i.bytes)) = some (some (.int K 0), 1, bytes))
    {ops : Array Oper} {rest : List Oper} {o : Oper} {a : Act} {w : World} {Q : Exit → Act → World → Prop} (hgd : o.guard = none) (s x : Operand)
    (ho : o.op = .call { callee := .builtin .append, args := #[s, x], argTypes := #[T, T] }) (B Bs : Nat) (xs ys : List Int) (v sv : Value) (hs : a.eval s = v) (hx : a.eval x = sv)
    (hown : Own E K B w v xs) (hsv : Rd K Bs w sv ys) (hlim : xs.length + ys.length ≤ 140737488355328) (hlim2 : (xs.length + ys.length) * bytes ≤ 140737488355328) (hB : B ≤ w.heap.size) (w0 : World) (hbel : Below B w0 w)
    (h : ∀ v' w', Own E K B w' v' (xs ++ ys) → Below B w0 w' → wpList Tryd.prog ops Q rest (a.put o.dst v') w') : wpList Tryd.prog ops Q (o :: rest) a w := by
  obtain ⟨i0, hi, hz0, hz1, hz2⟩ := info_parts hinfo
  have hsv' := hsv
  obtain ⟨ao, cap, rfl, hl, hm, hn, hc⟩ := hsv
  cases ao with
  | none =>
    have e1 := hn rfl
    subst e1
    have e3 : ys = [] := List.length_eq_zero_iff.1 (by omega)
    subst e3
    refine wpList_append_own_none hgd s x T ho B E i0 1 hT hi v _ _ hs hown hx ?_
    exact h v w (by rw [List.append_nil]; exact hown) hbel
  | some ad =>
    refine wpList_append_own w hgd s x T ho B E i0 (.int K 0) 1 bytes hT hi hz0 hz1 hz2 rfl (by decide) v _ _ hs hown ad ys.length cap (ys.map (Value.int K)) hx (by simp) (cells_rd hsv') (ints_oneCell _ _) (by unfold maxLen; omega) hlim2 hB ?_
    intro v' w' h1 h2 h3
    refine h v' w' ?_ (grown_below hown hbel h2 hB)
    unfold Own
    rw [List.length_append, List.map_append]
    exact h1

theorem Rd_new1 (w : World) (E : TypeId) (c : Int) : Rd K (w.heap.size + 1) (w.alloc (.cells #[.int K c] E)) (.slice (some ⟨w.heap.size, 0, none⟩) 1 1) [c] := by
  refine ⟨_, 1, rfl, by simp, by simp, (by simp), fun k hk => ⟨w.heap.size, 0, rfl, by omega, ?_⟩⟩
  have : k = 0 := by simp at hk; omega
  subst this
  simp
end

theorem info5 : (Tryd.prog.info? 5).map (fun i => (i.zero, i.size, i.bytes)) = some (some (.int .u8 0), 1, 1) := by kernel_rfl
theorem info29 : (Tryd.prog.info? 29).map (fun i => (i.zero, i.size, i.bytes)) = some (some (.int .u64 0), 1, 8) := by kernel_rfl
theorem size5 : (Tryd.prog.info? 5).map (·.size) = some 1 := by kernel_rfl
theorem size29 : (Tryd.prog.info? 29).map (·.size) = some 1 := by kernel_rfl

theorem eq_of_take {xs ys : List Int} (hl : xs.length = ys.length) (h : ∀ k, k < xs.length → xs.getD k 0 = ys.getD k 0) : xs = ys := by
  apply List.ext_getElem hl
  intro i h1 h2
  have := h i h1
  simp [List.getD_eq_getElem?_getD, h1, h2] at this
  exact this

theorem bytesEqual_same (B B' : Nat) (u v : Value) (xs : List Int) (w : World) (hu : Rd .u8 B w u xs) (hv : Rd .u8 B' w v xs) :
    Calls Tryd.prog 13 #[u, v] w fun e w' => e = .returned (.bool true) ∧ ∃ n, w' = w.drewN n := by
  obtain ⟨ao, cap, rfl, hl, hm, -, hc⟩ := hu
  obtain ⟨ao', cap', rfl, hl', hm', -, hc'⟩ := hv
  have he' : ((xs.length : Int) != (xs.length : Int)) = false := by simp
  go_enter Tryd.func13, Tryd.ntmps13
  go_wp2
  go_loopw [13] (fun i wr => ∃ k n : Nat, k ≤ xs.length ∧ i = .int .i64 k ∧ wr = w.drewN n) (fun i _ => xs.length - (intOf i).toNat)
  case atStart => exact ⟨0, 0, Nat.zero_le _, rfl, rfl⟩
  case round =>
    obtain ⟨k, n, hk, rfl, rfl⟩ := hrel
    by_cases hlt : (k : Int) < xs.length
    · obtain ⟨b, off, rfl, -, hx⟩ := hc k (by omega)
      obtain ⟨b', off', rfl, -, hy⟩ := hc' k (by omega)
      clear hc hc'
      obtain ⟨c, hcc⟩ : ∃ c, c = xs.getD k 0 := ⟨_, rfl⟩
      rw [← hcc] at hx hy
      clear hcc
      have hccf : (c != c) = false := by simp
      go_wp2
      go_quiet (fail)
      go_wp2
      go_roundw
      case rel => exact ⟨k + 1, n + nq, by omega, by go_num, rfl⟩
      case measure => simp [intOf]; omega
    · go_wp2
      go_ret
      exact ⟨rfl, n, rfl⟩
end Go.Proofs.Qxb6609120aDoor
