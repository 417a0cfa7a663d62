import Derived.Test.Qxb6608909aDoorRows
import Derived.WalkKit
import Derived.WalkSpells
import Derived.WalkLawsBesides
import Derived.Deep.QuietTactic
import Derived.BigQuiet
import Derived.Laws.CopyOwn
namespace Go.Proofs.Qxb6608909aDoor
open Go.RowKit

theorem hid {p : Prop} (h : p) : Hid p := h

/-- the slice value v reads, in the world w, as the bytes xs; its cells lie in blocks below B -/
def Rd (B : Nat) (w : World) (v : Value) (xs : List Int) : Prop :=
  ∃ ao cap, v = .slice ao xs.length cap ∧ xs.length ≤ cap ∧ (xs.length ≤ 140737488355328 ∧ cap ≤ 9223372036854775807) ∧ (ao = none → cap = 0) ∧
    ∀ k, k < xs.length → ∃ b off, ao = some ⟨b, off, none⟩ ∧ b < B ∧ w.cell? ⟨b, off + k, none⟩ = some (.int .u8 (xs.getD k 0))

theorem ret_bool {a b : Bool} (h : a = b) : Ending.returned (.bool a) = .returned (.bool b) := by rw [h]

theorem Rd.mono {B B' : Nat} {w : World} {v : Value} {xs : List Int} (h : Rd B w v xs) (hB : B ≤ B') : Rd B' w v xs := by
  obtain ⟨ao, cap, h1, h2, h3, h4, h5⟩ := h
  refine ⟨ao, cap, h1, h2, h3, h4, fun k hk => ?_⟩
  obtain ⟨b, off, e, hb, hc⟩ := h5 k hk
  exact ⟨b, off, e, by omega, hc⟩
theorem Rd.below {B : Nat} {w w' : World} {v : Value} {xs : List Int} (h : Rd B w v xs) (hb : Below B w w') : Rd B w' v xs := by
  obtain ⟨ao, cap, h1, h2, h3, h4, h5⟩ := h
  refine ⟨ao, cap, h1, h2, h3, h4, fun k hk => ?_⟩
  obtain ⟨b, off, e, hlt, hc⟩ := h5 k hk
  exact ⟨b, off, e, hlt, (hb.cell (p := ⟨b, off + k, none⟩) hlt).trans hc⟩

theorem eq_of_take {xs ys : List Int} (hl : xs.length = ys.length) (h : ∀ k, k < xs.length → xs.getD k 0 = ys.getD k 0) : xs = ys := by
  apply List.ext_getElem hl
  intro i h1 h2
  have := h i h1
  simp [List.getD_eq_getElem?_getD, h1, h2] at this
  exact this

theorem eq_miss {xs ys : List Int} {k : Nat} (h : (xs[k]?.getD 0 != ys[k]?.getD 0) = true) : decide (xs = ys) = false := by
  rw [decide_eq_false_iff_not]; intro e; rw [e] at h; simp at h
theorem eq_step {xs ys : List Int} {k : Nat} (h : (xs[k]?.getD 0 != ys[k]?.getD 0) = false) (H : ∀ j, j < k → xs.getD j 0 = ys.getD j 0) : ∀ j, j < k + 1 → xs.getD j 0 = ys.getD j 0 := by
  intro j hj
  by_cases e : j = k
  · subst e; rw [List.getD_eq_getElem?_getD, List.getD_eq_getElem?_getD]; simpa using h
  · exact H j (by omega)
theorem eq_hit {xs ys : List Int} {k : Nat} (hl : xs.length = ys.length) (h : xs.length ≤ k) (H : ∀ j, j < k → xs.getD j 0 = ys.getD j 0) : decide (xs = ys) = true := by
  rw [decide_eq_true_iff]; exact eq_of_take hl fun j hj => H j (by omega)

theorem zzEq_any (B B' : Nat) (u v : Value) (xs ys : List Int) (w : World) (hu : Rd B w u xs) (hv : Rd B' w v ys) :
    Calls Tryd.prog 12 #[u, v] w fun e w' => e = .returned (.bool (decide (xs = ys))) ∧ ∃ n, w' = w.drewN n := by
  obtain ⟨ao, cap, rfl, hl, hm, -, hc⟩ := hu
  obtain ⟨ao', cap', rfl, hl', hm', -, hc'⟩ := hv
  by_cases he : xs.length = ys.length
  · have he' : ((xs.length : Int) != (ys.length : Int)) = false := by simp [he]
    have HE : Hid (xs.length = ys.length) := he
    clear he
    go_enter Tryd.func12, Tryd.ntmps12
    go_wp2
    go_loopw [5] (fun i wr => ∃ k n : Nat, k ≤ xs.length ∧ i = .int .i64 k ∧ wr = w.drewN n ∧ Hid (∀ j, j < k → xs.getD j 0 = ys.getD j 0)) (fun i _ => xs.length - (intOf i).toNat)
    case atStart => exact ⟨0, 0, Nat.zero_le _, rfl, rfl, fun j hj => absurd hj (Nat.not_lt_zero j)⟩
    case round =>
      obtain ⟨k, n, hk, rfl, rfl, H⟩ := hrel
      by_cases hlt : (k : Int) < xs.length
      · obtain ⟨b, off, rfl, -, hx⟩ := hc k (by omega)
        obtain ⟨b', off', rfl, -, hy⟩ := hc' k (by have := HE.out; omega)
        have hlt' : (k : Int) < ys.length := by have := HE.out; omega
        clear hc hc'
        go_wp2
        go_quiet (fail)
        go_wp2
        · go_ret
          exact ⟨ret_bool (eq_miss (k := k) ‹_›).symm, n + nq, by simp⟩
        · refine ⟨⟨k + 1, n + nq, by omega, by go_num, rfl, eq_step (k := k) ‹_› H.out⟩, ?_⟩
          simp [intOf]; omega
      · go_wp2
        go_ret
        exact ⟨ret_bool (eq_hit HE.out (by omega) H.out).symm, n, rfl⟩
  · have he' : ((xs.length : Int) != (ys.length : Int)) = true := by simp; omega
    go_enter Tryd.func12, Tryd.ntmps12
    go_wp2
    go_ret
    exact ⟨ret_bool (by rw [eq_comm, decide_eq_false_iff_not]; intro h; rw [h] at he; exact he rfl), 0, rfl⟩

theorem info5 : (Tryd.prog.info? 5).map (fun i => (i.zero, i.size, i.bytes)) = some (some (.int .u8 0), 1, 1) := by kernel_rfl
theorem size5 : (Tryd.prog.info? 5).map (·.size) = some 1 := by kernel_rfl

theorem zzClone_nil (w : World) : Calls Tryd.prog 9 #[.slice none 0 0] w fun e w' => e = .returned (.slice none 0 0) ∧ w' = w := by
  have hs : ∀ wx, (binOp .eql 22 (.slice none 0 0) (.slice none 0 0)).run Tryd.prog wx = .ok (.bool true) wx := fun wx => Lib.run_eql_slice_nil wx 22 5 none 0 0 0 0 Tryd.underlying22
  go_enter Tryd.func9, Tryd.ntmps9
  go_wp2
  go_ret
  exact ⟨rfl, rfl⟩

/-- a row of the call's own, as a block -/
theorem own_block {w : World} {B e g n : Nat} {xs : List Value} (h : w.ownsRow B e 1 (.slice (some ⟨g, 0, none⟩) n n) n xs) : ∃ L : List Value, L.length = n ∧ w.heap[g]? = some (.cells L.toArray e) := by
  rcases h.2 with ⟨h1, _⟩ | ⟨g', cap, cur, h1, _, h2, _, _, h3, _⟩
  · simp at h1
  · simp only [Value.slice.injEq, Option.some.injEq, Addr.mk.injEq] at h1
    obtain ⟨⟨rfl, -, -⟩, -, rfl⟩ := h1
    exact ⟨cur.toList, by simpa using h3, by simpa using h2⟩

theorem ownsRow_of_block {w : World} {B e g n : Nat} {L : List Value} (hB : B ≤ g) (hn : L.length = n) (hm : n ≤ maxLen) (h : w.heap[g]? = some (.cells L.toArray e)) : w.ownsRow B e 1 (.slice (some ⟨g, 0, none⟩) n n) n L :=
  ⟨by simp [hn], .inr ⟨g, n, L.toArray, rfl, hB, h, Nat.le_refl _, hm, by simp [hn], by simp [← hn]⟩⟩

theorem splice_all {α : Type} (L cs : List α) (h : L.length = cs.length) : splice L 0 cs = cs := by
  unfold splice; simp [← h]

set_option maxRecDepth 100000 in
theorem zzClone_some (B : Nat) (a : Addr) (n cap : Nat) (xs : List Int) (w : World) (h : Rd B w (.slice (some a) n cap) xs) :
    Calls Tryd.prog 9 #[.slice (some a) n cap] w fun e w' => e = .returned (.slice (some ⟨w.heap.size, 0, none⟩) n n) ∧
      w'.ownsRow w.heap.size 5 1 (.slice (some ⟨w.heap.size, 0, none⟩) n n) n (xs.map (Value.int .u8)) ∧ Below w.heap.size w w' := by
  obtain ⟨i0, hi, hz0, hz1, hz2⟩ := info_parts info5
  obtain ⟨ao, cap', e, hl, hm, -, hc⟩ := h
  simp only [Value.slice.injEq] at e
  obtain ⟨rfl, rfl, rfl⟩ := e
  have hs : ∀ wx, (binOp .eql 22 (.slice (some a) xs.length cap) (.slice none 0 0)).run Tryd.prog wx = .ok (.bool false) wx := fun wx => Lib.run_eql_slice_nil wx 22 5 (some a) xs.length cap 0 0 Tryd.underlying22
  obtain ⟨cs, hcs⟩ : ∃ cs, cs = xs.map (Value.int .u8) := ⟨_, rfl⟩
  have hsrc : ∀ (w1 : World), Below w.heap.size w w1 → ∀ j v, cs[j]? = some v → w1.cell? (a.add j) = some v := by
    intro w1 hb j v hj
    rw [hcs, List.getElem?_map] at hj
    by_cases hjl : j < xs.length
    · obtain ⟨b, off, e, -, hx⟩ := hc j hjl
      simp only [Option.some.injEq] at e
      subst e
      have hlt := World.block_lt_of_cell? w _ hx
      have e2 : xs[j]? = some (xs.getD j 0) := by rw [List.getElem?_eq_getElem hjl, List.getD_eq_getElem?_getD, List.getElem?_eq_getElem hjl]; rfl
      rw [e2] at hj
      simp only [Option.map_some, Option.some.injEq] at hj
      rw [← hj, Addr.add_lit]
      exact (hb.cell (p := ⟨b, off + j, none⟩) hlt).trans hx
    · rw [List.getElem?_eq_none (by omega)] at hj; simp at hj
  have hlen : cs.length = xs.length := by rw [hcs]; simp
  have HCS : Hid (cs = xs.map (Value.int .u8)) := hcs
  have hone : ∀ v ∈ cs, v.oneCell' = true := by rw [hcs]; exact ints_oneCell _ _
  have HSRC := hid hsrc
  have HONE := hid hone
  clear hcs hc hsrc hone
  go_enter Tryd.func9, Tryd.ntmps9
  go_wp2_with (first
    | (at_make; refine wpList_make_full _ rfl (.tmp 7) (.tmp 7) 22 rfl w.heap.size 5 i0 (.int .u8 0) 1 Tryd.underlying22 hi hz0 hz1 .i64 .i64 _ _ xs.length rfl rfl rfl rfl (by rw [hz2]; omega) (by unfold maxLen; omega) (Nat.le_refl _) ?_; intro w1 hown hgr; obtain ⟨L, hL, hblk⟩ := own_block hown; have hbel : Below w.heap.size w w1 := (Below.refl _ _).grown hgr (Nat.le_refl _) (by simp); clear hown hgr)
    | (refine wpList_copy_splice rfl (.tmp 9) (.tmp 10) 22 22 rfl 5 Tryd.underlying22 size5 _ _ _ _ _ _ rfl rfl w.heap.size 0 L 5 hblk cs (by simp; omega) (fun _ => ⟨rfl, a, rfl, HSRC.out _ hbel⟩) (by omega) HONE.out w.heap.size w hbel (Nat.le_refl _) ?_; intro w2 HB hb2)
    )
  go_ret
  refine ⟨rfl, ?_, hb2⟩
  have hh := HB.out
  rw [splice_all L cs (by omega), HCS.out] at hh
  exact ownsRow_of_block (Nat.le_refl _) (by simp) (by unfold maxLen; omega) hh

theorem zzClone_any (B : Nat) (v : Value) (xs : List Int) (w : World) (h : Rd B w v xs) :
    Calls Tryd.prog 9 #[v] w fun e w' => ∃ v', e = .returned v' ∧
      w'.ownsRow w.heap.size 5 1 v' xs.length (xs.map (Value.int .u8)) ∧ Below w.heap.size w w' ∧ (v' = .slice none 0 0 ↔ v = .slice none 0 0) := by
  have h' := h
  obtain ⟨ao, cap, rfl, hl, hm, hn, hc⟩ := h
  cases ao with
  | none =>
    have e1 := hn rfl
    subst e1
    have e2 : xs.length = 0 := by omega
    have e3 : xs = [] := List.length_eq_zero_iff.1 e2
    subst e3
    refine (zzClone_nil w).mono ?_
    rintro e w' ⟨rfl, rfl⟩
    exact ⟨_, rfl, World.ownsRow_nil _ _ _ _, Below.refl _ _, by simp⟩
  | some a =>
    refine (zzClone_some B a _ cap xs w h').mono ?_
    rintro e w' ⟨rfl, ho, hb⟩
    exact ⟨_, rfl, ho, hb, by simp⟩

/-- a row of the call's own reads -/
theorem Rd_own {B : Nat} {w : World} {v : Value} {n : Nat} {xs : List Int} (h : w.ownsRow B 5 1 v n (xs.map (Value.int .u8))) (hl : xs.length ≤ 140737488355328) : Rd w.heap.size w v xs := by
  have hn : xs.length = n := by have := h.1; simp at this; omega
  subst hn
  have h0 := h
  rcases h.2 with ⟨rfl, he⟩ | ⟨g, cap, cur, rfl, hb, hg, h1, h2, h3, h4⟩
  · exact ⟨none, 0, by rw [he], by omega, ⟨by omega, by omega⟩, fun _ => rfl, fun k hk => by omega⟩
  · refine ⟨some ⟨g, 0, none⟩, cap, rfl, h1, ⟨hl, by unfold maxLen at h2; omega⟩, (by simp), fun k hk => ⟨g, 0, rfl, (Array.getElem?_eq_some_iff.1 hg).1, ?_⟩⟩
    have := h0.cells (g := g) rfl k (.int .u8 (xs.getD k 0)) (by rw [List.getElem?_map, List.getElem?_eq_getElem hk, List.getD_eq_getElem?_getD, List.getElem?_eq_getElem hk]; rfl)
    rw [Addr.add_lit] at this
    exact this
end Go.Proofs.Qxb6608909aDoor
