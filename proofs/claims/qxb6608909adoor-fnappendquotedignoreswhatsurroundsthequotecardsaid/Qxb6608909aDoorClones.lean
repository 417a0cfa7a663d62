import Derived.Test.Qxb6608909aDoorArr
import Derived.Lib.SmallJoins
namespace Go.Proofs.Qxb6608909aDoor
open Go.RowKit Go.Joins

theorem info22 : (Tryd.prog.info? 22).map (fun i => (i.zero, i.size, i.bytes)) = some (some (.slice none 0 0), 1, 24) := by kernel_rfl

theorem zzCloneAll_nil (w : World) : Calls Tryd.prog 10 #[.slice none 0 0] w fun e w' => e = .returned (.slice none 0 0) ∧ w' = w := by
  have hs : ∀ wx, (binOp .eql 23 (.slice none 0 0) (.slice none 0 0)).run Tryd.prog wx = .ok (.bool true) wx := fun wx => Lib.run_eql_slice_nil wx 23 22 none 0 0 0 0 Tryd.underlying23
  go_enter Tryd.func10, Tryd.ntmps10
  go_wp2
  go_ret
  exact ⟨rfl, rfl⟩

/-- what stands when k elements have been cloned: G the block of the new row -/
def ClI (G n k : Nat) (ess : List (List Int)) (w wr : World) : Prop :=
  ∃ L : List Value, L.length = n ∧ wr.heap[G]? = some (.cells L.toArray 22) ∧ Below G w wr ∧ G < wr.heap.size ∧ ∀ j, j < k → ∃ ev, L[j]? = some ev ∧ Own (G + 1) wr ev (ess.getD j [])

theorem ClI.start {G n : Nat} {ess : List (List Int)} {w w1 : World} {L : List Value} (hL : L.length = n) (hb : w1.heap[G]? = some (.cells L.toArray 22)) (hbel : Below G w w1) : ClI G n 0 ess w w1 :=
  ⟨L, hL, hb, hbel, (Array.getElem?_eq_some_iff.1 hb).1, fun j hj => absurd hj (Nat.not_lt_zero j)⟩
theorem Own.setCell {G : Nat} {w : World} {v : Value} {xs : List Int} (h : Own (G + 1) w v xs) (i : Nat) (u : Value) : Own (G + 1) (w.setCell ⟨G, i, none⟩ u) v xs :=
  ownsRow_setCell_below h (Nat.lt_succ_self G) u
theorem Own.lt {B : Nat} {w : World} {v : Value} {xs : List Int} (h : Own B w v xs) : ∀ k, v.ownBlock = some k → k < w.heap.size := fun k hk => (World.ownsRow.lt h k hk).2
theorem Own.keep {B : Nat} {w w' : World} {v : Value} {xs : List Int} (h : Own B w v xs) (hb : Below w.heap.size w w') : Own B w' v xs := by
  refine ⟨h.1, ?_⟩
  rcases h.2 with h1 | ⟨g, cap, cur, h1, h2, h3, h4⟩
  · exact .inl h1
  · exact .inr ⟨g, cap, cur, h1, h2, (hb.block g (Array.getElem?_eq_some_iff.1 h3).1).trans h3, h4⟩
theorem ClI.step {G n k : Nat} {ess : List (List Int)} {w wr w2 : World} {v : Value} (h : ClI G n k ess w wr) (hk : k < n) (hb : Below wr.heap.size wr w2) (ho : Own wr.heap.size w2 v (ess.getD k [])) :
    ClI G n (k + 1) ess w (w2.setCell ⟨G, k, none⟩ v) := by
  obtain ⟨L, hL, hh, hbel, hG, hall⟩ := h
  have hh2 : w2.heap[G]? = some (.cells L.toArray 22) := (hb.block G hG).trans hh
  refine ⟨L.set k v, by simp [hL], ?_, ?_, ?_, ?_⟩
  · have := block_setCell (i := k) hh2 v
    rw [this]; simp
  · exact (hbel.trans (hb.mono (Nat.le_of_lt hG))).setCell (Nat.le_refl _) v
  · have := hb.size; simp [World.setCell]; omega
  · intro j hj
    by_cases e : j = k
    · subst e
      refine ⟨v, ?_, (ho.le (by omega)).setCell _ _⟩
      rw [List.getElem?_set_self (by omega)]
    · obtain ⟨ev, h1, h2⟩ := hall j (by omega)
      refine ⟨ev, ?_, (h2.keep hb).setCell _ _⟩
      rw [List.getElem?_set_ne (by omega)]; exact h1
theorem ClI.fin {G n : Nat} {ess : List (List Int)} {w wr : World} (h : ClI G n n ess w wr) (hn : ess.length = n) (hlim : ∀ j, j < n → (ess.getD j []).length ≤ 140737488355328) (hn2 : n ≤ 140737488355328) :
    RdAll wr.heap.size wr (.slice (some ⟨G, 0, none⟩) n n) ess := by
  obtain ⟨L, hL, hh, hbel, hG, hall⟩ := h
  subst hn
  refine ⟨_, _, rfl, Nat.le_refl _, ⟨hn2, by omega⟩, (by simp), fun k hk => ?_⟩
  obtain ⟨ev, h1, h2⟩ := hall k hk
  refine ⟨G, 0, ev, rfl, hG, ?_, h2.rd (hlim k hk)⟩
  rw [cell_of_block hh]; simpa using h1

set_option maxRecDepth 100000 in
theorem zzCloneAll_some (a : Addr) (n cap : Nat) (ess : List (List Int)) (w : World) (h : RdAll w.heap.size w (.slice (some a) n cap) ess) (hn : n ≤ 1048576) :
    Calls Tryd.prog 10 #[.slice (some a) n cap] w fun e w' => ∃ v', e = .returned v' ∧ RdAll w'.heap.size w' v' ess ∧ Below w.heap.size w w' := by
  obtain ⟨i0, hi, hz0, hz1, hz2⟩ := info_parts info22
  obtain ⟨ao, cap', e, hl, hm, -, hc⟩ := h
  simp only [Value.slice.injEq] at e
  obtain ⟨rfl, rfl, rfl⟩ := e
  have hs : ∀ wx, (binOp .eql 23 (.slice (some a) ess.length cap) (.slice none 0 0)).run Tryd.prog wx = .ok (.bool false) wx := fun wx => Lib.run_eql_slice_nil wx 23 22 (some a) ess.length cap 0 0 Tryd.underlying23
  have HC := hid hc
  clear hc
  go_enter Tryd.func10, Tryd.ntmps10
  go_wp2_with (first
    | (at_make; refine wpList_make_full _ rfl (.tmp 8) (.tmp 8) 23 rfl w.heap.size 22 i0 (.slice none 0 0) 1 Tryd.underlying23 hi hz0 hz1 .i64 .i64 _ _ ess.length rfl rfl rfl rfl (by rw [hz2]; omega) (by unfold maxLen; omega) (Nat.le_refl _) ?_; intro w1 hown hgr; obtain ⟨L, hL, hblk⟩ := own_block hown; have HI := hid (ClI.start (ess := ess) hL hblk ((Below.refl _ _).grown hgr (Nat.le_refl _) (by simp))); clear hown hgr hL hblk))
  go_loopw [4] (fun i wr => ∃ k : Nat, k ≤ ess.length ∧ i = .int .i64 k ∧ Hid (ClI w.heap.size ess.length k ess w wr)) (fun i _ => ess.length - (intOf i).toNat)
  case atStart => exact ⟨0, Nat.zero_le _, rfl, HI⟩
  case round =>
    obtain ⟨k, hk, rfl, HI2⟩ := hrel
    by_cases hlt : (k : Int) < ess.length
    · obtain ⟨b, off, e1, e2, hlb, hx, hr⟩ := HC.out k (by omega)
      simp only [Option.some.injEq] at e2
      subst e2
      obtain ⟨L2, hL2, hh2, hbel2, hG2, -⟩ := HI2.out
      have hx2 := (hbel2.cell (p := ⟨b, off + k, none⟩) hlb).trans hx
      have HR := hid (hr.below hbel2)
      have HH := hid hh2
      have HG := hid hG2
      have HL2 := hid hL2
      clear hx hr hlb hh2 hbel2 hG2 hL2
      go_wp2_with (first
        | (go_at_call 9; refine (zzClone_any _ e1 _ wr HR.out).mono ?_; rintro e w2 ⟨v2, rfl, ho2, hb2, -⟩; obtain ⟨ao2, cap2, rfl⟩ := Own.slice ho2; have hcl : ∃ old, w2.cell? ⟨w.heap.size, k, none⟩ = some old := ⟨(L2[k]'(by have := HL2.out; omega)), by rw [cell_of_block ((hb2.block _ HG.out).trans HH.out)]; simp⟩; obtain ⟨old, hcl⟩ := hcl; have hfr := unfrozen_of_block ((hb2.block _ HG.out).trans HH.out) k; have HO2 := hid ho2; have HB2 := hid hb2; clear ho2 hb2))
      go_roundw
      case rel => exact ⟨k + 1, by omega, by go_num, HI2.out.step (by omega) HB2.out HO2.out⟩
      case measure => simp [intOf]; omega
    · go_wp2
      go_ret
      have hke : k = ess.length := by omega
      subst hke
      refine ⟨_, rfl, HI2.out.fin rfl ?_ (by omega), ?_⟩
      · intro j hj
        obtain ⟨_, _, _, _, _, _, hr⟩ := HC.out j hj
        obtain ⟨_, _, _, _, h3, _⟩ := hr
        exact h3.1
      · obtain ⟨_, _, _, hb, _⟩ := HI2.out
        exact hb

theorem zzCloneAll_any (v : Value) (ess : List (List Int)) (w : World) (h : RdAll w.heap.size w v ess) (hn : ess.length ≤ 1048576) :
    Calls Tryd.prog 10 #[v] w fun e w' => ∃ v', e = .returned v' ∧ RdAll w'.heap.size w' v' ess ∧ Below w.heap.size w w' := by
  have h' := h
  obtain ⟨ao, cap, rfl, hl, hm, hn', hc⟩ := h
  cases ao with
  | none =>
    have e1 := hn' rfl
    subst e1
    have e3 : ess = [] := List.length_eq_zero_iff.1 (by omega)
    subst e3
    refine (zzCloneAll_nil w).mono ?_
    rintro e w' ⟨rfl, rfl⟩
    exact ⟨_, rfl, h', Below.refl _ _⟩
  | some a => exact zzCloneAll_some a _ cap ess w h' hn
end Go.Proofs.Qxb6608909aDoor
