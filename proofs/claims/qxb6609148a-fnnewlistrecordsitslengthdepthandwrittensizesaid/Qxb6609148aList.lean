import Derived.Test.Qxb6609148aBase
import Derived.Laws.Rows
namespace Go.Proofs.Qxb6609148a
open Go.RowKit Go.Joins

section
variable {P : Program}
theorem ta_hit {fs : Array Field} (t xT : TypeId) (v : Value) (h : P.underlying t = some (.struct fs)) (w : World) : (Instr.typeAssert (.iface t v) xT t true).run P w = .ok (.tuple #[v, .bool true]) w := by
  simp [Instr.typeAssert, run_underlying h, go_sem, Result.andThen]
theorem ta_hit_string (t xT : TypeId) (v : Value) (h : P.underlying t = some .string) (w : World) : (Instr.typeAssert (.iface t v) xT t true).run P w = .ok (.tuple #[v, .bool true]) w := by
  simp [Instr.typeAssert, run_underlying h, go_sem, Result.andThen]
theorem ta_miss {fs : Array Field} (t a xT : TypeId) (v z : Value) (h : P.underlying a = some (.struct fs)) (hne : t ≠ a) (hz : ∀ w, (zeroValue a).run P w = .ok z w) (w : World) : (Instr.typeAssert (.iface t v) xT a true).run P w = .ok (.tuple #[z, .bool false]) w := by
  simp [Instr.typeAssert, run_underlying h, go_sem, Result.andThen, hne, hz]
theorem ta_miss_string (t a xT : TypeId) (v z : Value) (h : P.underlying a = some .string) (hne : t ≠ a) (hz : ∀ w, (zeroValue a).run P w = .ok z w) (w : World) : (Instr.typeAssert (.iface t v) xT a true).run P w = .ok (.tuple #[z, .bool false]) w := by
  simp [Instr.typeAssert, run_underlying h, go_sem, Result.andThen, hne, hz]
end

theorem below_drewN {B : Nat} {w w' : World} (h : Below B w w') (n : Nat) : Below B w (w'.drewN n) := ⟨h.os, h.tape, h.output, h.size, h.block⟩

/-- the list value -/
def lv (ao : Option Addr) (n cap d t : Nat) : Value := .agg #[.slice ao n cap, .int .i64 d, .int .i64 t]

theorem ret_ii {a b c d : Int} (h : a = b) (h2 : c = d) : Ending.returned (.tuple #[.int .i64 a, .int .i64 c]) = .returned (.tuple #[.int .i64 b, .int .i64 d]) := by rw [h, h2]

set_option maxHeartbeats 4000000 in
set_option maxRecDepth 100000 in
theorem measureS (s : ByteArray) (w : World) (hs : s.size ≤ 4000000) :
    Calls Try.prog 38 #[.iface 33 (.string s)] w fun e w' => e = .returned (.tuple #[.int .i64 0, .int .i64 ((1 + s.size : Nat) : Int)]) ∧ w' = w := by
  have h1 := ta_miss 33 30 47 (.string s) _ Try.underlying30 (by decide) Try.zeroValue30
  have h2 := ta_miss 33 51 47 (.string s) _ Try.underlying51 (by decide) Try.zeroValue51
  have h3 := ta_miss 33 55 47 (.string s) _ Try.underlying55 (by decide) Try.zeroValue55
  have h4 := ta_hit_string (P := Try.prog) 33 47 (.string s) Try.underlying33
  go_enter Try.func38, Try.ntmps38
  go_wp2
  go_ret2
  exact ⟨ret_ii rfl (by omega), rfl⟩

set_option maxHeartbeats 4000000 in
set_option maxRecDepth 100000 in
theorem measureL (ao : Option Addr) (n cap d t : Nat) (w : World) (hd : d ≤ 10) (ht : t ≤ 4000000) :
    Calls Try.prog 38 #[.iface 30 (lv ao n cap d t)] w fun e w' => e = .returned (.tuple #[.int .i64 ((d + 1 : Nat) : Int), .int .i64 ((1 + t : Nat) : Int)]) ∧ Below w.heap.size w w' := by
  unfold lv
  have h1 := ta_hit (P := Try.prog) 30 47 (.agg #[.slice ao n cap, .int .i64 d, .int .i64 t]) Try.underlying30
  go_enter Try.func38, Try.ntmps38
  go_wp2
  go_quiet (fail)
  go_wp2
  go_ret2
  refine ⟨ret_ii (by omega) (by omega), ?_⟩
  exact below_drewN ((Below.refl _ _).alloc (Nat.le_refl _) _) nq

/-- measure answers (d, m) at v -/
def Meas (v : Value) (d m : Nat) : Prop := ∀ w, Calls Try.prog 38 #[v] w fun e w' => e = .returned (.tuple #[.int .i64 (d : Int), .int .i64 (m : Int)]) ∧ Below w.heap.size w w'

theorem meas_string (s : ByteArray) (hs : s.size ≤ 4000000) : Meas (.iface 33 (.string s)) 0 (1 + s.size) := fun w =>
  (measureS s w hs).mono fun _ _ ⟨he, hw⟩ => ⟨he, by rw [hw]; exact Below.refl _ _⟩
theorem meas_list (ao : Option Addr) (n cap d t : Nat) (hd : d ≤ 10) (ht : t ≤ 4000000) : Meas (.iface 30 (lv ao n cap d t)) (d + 1) (1 + t) := fun w => measureL ao n cap d t w hd ht

/-- the list's own block, and the cell of the result -/
def LB (g : Nat) (w : World) (sl : Value) (d t : Nat) : Prop := w.heap[g]? = some (.cells #[sl, .int .i64 d, .int .i64 t] 30)

theorem LB.cells {g : Nat} {w : World} {sl : Value} {d t : Nat} (h : LB g w sl d t) : w.cell? ⟨g, 0, none⟩ = some sl ∧ w.cell? ⟨g, 1, none⟩ = some (.int .i64 d) ∧ w.cell? ⟨g, 2, none⟩ = some (.int .i64 t) := by
  refine ⟨?_, ?_, ?_⟩ <;> (rw [cell_of_block h]; rfl)
theorem LB.set {g : Nat} {w : World} {sl : Value} {d t d' t' : Nat} (h : LB g w sl d t) : LB g ((w.setCell ⟨g, 1, none⟩ (.int .i64 d')).setCell ⟨g, 2, none⟩ (.int .i64 t')) sl d' t' := by
  have h1 := block_setCell (i := 1) h (.int .i64 d')
  have h2 := block_setCell (i := 2) h1 (.int .i64 t')
  unfold LB
  rw [h2]
  rfl

theorem LB.set3 {g : Nat} {w : World} {sl sl' : Value} {d t d' t' : Nat} (h : LB g w sl d t) : LB g (((w.setCell ⟨g, 0, none⟩ sl').setCell ⟨g, 1, none⟩ (.int .i64 d')).setCell ⟨g, 2, none⟩ (.int .i64 t')) sl' d' t' := by
  have h0 := block_setCell (i := 0) h sl'
  have h1 := block_setCell (i := 1) h0 (.int .i64 d')
  have h2 := block_setCell (i := 2) h1 (.int .i64 t')
  unfold LB
  rw [h2]
  rfl
theorem size30 : (Try.prog.info? 30).map (·.size) = some 3 := by kernel_rfl

set_option maxHeartbeats 4000000 in
set_option maxRecDepth 100000 in
theorem add_any (g : Nat) (v sl : Value) (d0 t0 d m : Nat) (w : World) (hb : LB g w sl d0 t0) (hg : g < w.heap.size) (hm : Meas v d m) (_h1 : d0 ≤ 100) (_h2 : d ≤ 100) (h3 : t0 ≤ 1000000000) (h4 : m ≤ 1000000000) :
    Calls Try.prog 29 #[.pointer (some ⟨g, 1, none⟩), .string { data := #[] }, v] w fun e w' => e = .returned (.tuple #[]) ∧ LB g w' sl (max d0 d) (t0 + m) ∧ Below g w w' ∧ w.heap.size ≤ w'.heap.size := by
  have HM := hid hm
  have HB := hid hb
  clear hm hb
  go_enter Try.func29, Try.ntmps29
  go_wp2_with (go_at_call 38; refine (HM.out w).mono ?_; rintro e w1 ⟨rfl, hb1⟩; have hB1 : LB g w1 sl d0 t0 := (hb1.block g hg).trans HB.out; obtain ⟨k0, k1, k2⟩ := hB1.cells; have f1 := unfrozen_of_block hB1 1; have f2 := unfrozen_of_block hB1 2; have HB1 := hid hB1; have HW1 := hid hb1; clear hB1 hb1)
  · go_end0
    refine ⟨rfl, ?_, ?_, ?_⟩
    · rw [Nat.max_eq_right (by omega)]
      exact LB.set (d' := d) (t' := t0 + m) HB1.out
    · exact ((HW1.out.mono (Nat.le_of_lt hg)).setCell (Nat.le_refl _) _).setCell (Nat.le_refl _) _
    · have := HW1.out.size
      simpa [World.setCell] using this
  · go_end0
    refine ⟨rfl, ?_, ?_, ?_⟩
    · rw [Nat.max_eq_left (by omega)]
      exact LB.set (d' := d0) (t' := t0 + m) HB1.out
    · exact ((HW1.out.mono (Nat.le_of_lt hg)).setCell (Nat.le_refl _) _).setCell (Nat.le_refl _) _
    · have := HW1.out.size
      simpa [World.setCell] using this

/-- the depth and the written size that a list of elements records -/
def dep (es : List (Value × Nat × Nat)) : Nat := es.foldl (fun a e => max a e.2.1) 0
def wsum (es : List (Value × Nat × Nat)) : Nat := (es.map (·.2.2)).sum
def e0 : Value × Nat × Nat := (.bool false, 0, 0)
theorem take_es (es : List (Value × Nat × Nat)) (k : Nat) (h : k < es.length) : es.take (k + 1) = es.take k ++ [es.getD k e0] := by
  rw [List.take_succ_eq_append_getElem h, List.getD_eq_getElem?_getD, List.getElem?_eq_getElem h]; rfl
theorem dep_take (es : List (Value × Nat × Nat)) (k : Nat) (h : k < es.length) : dep (es.take (k + 1)) = max (dep (es.take k)) (es.getD k e0).2.1 := by
  rw [take_es es k h]; unfold dep; simp
theorem wsum_take (es : List (Value × Nat × Nat)) (k : Nat) (h : k < es.length) : wsum (es.take (k + 1)) = wsum (es.take k) + (es.getD k e0).2.2 := by
  rw [take_es es k h]; unfold wsum; simp

/-- what stands when k elements are recorded: S the result's block, S + 1 the list's -/
def NI (S : Nat) (w wr : World) (sl : Value) (es : List (Value × Nat × Nat)) (k : Nat) : Prop :=
  LB (S + 1) wr sl (dep (es.take k)) (wsum (es.take k)) ∧ LB S wr (.slice none 0 0) 0 0 ∧ Below S w wr ∧ S + 1 < wr.heap.size

theorem NI.start {w : World} {sl : Value} {es : List (Value × Nat × Nat)} :
    NI w.heap.size w ((w.alloc (.cells #[.slice none 0 0, .int .i64 0, .int .i64 0] 30)).alloc (.cells #[sl, .int .i64 0, .int .i64 0] 30)) sl es 0 := by
  obtain ⟨w1, hw1⟩ : ∃ w1, w1 = w.alloc (.cells #[.slice none 0 0, .int .i64 0, .int .i64 0] 30) := ⟨_, rfl⟩
  have hs : w1.heap.size = w.heap.size + 1 := by rw [hw1]; simp
  have hn : w1.heap[w.heap.size]? = some (.cells #[.slice none 0 0, .int .i64 0, .int .i64 0] 30) := by rw [hw1]; exact heap_alloc_new w _
  have hb : Below w.heap.size w w1 := by rw [hw1]; exact (Below.refl _ _).alloc (Nat.le_refl _) _
  rw [← hw1]
  refine ⟨?_, ?_, hb.alloc (by omega) _, by simp [hs]⟩
  · have := heap_alloc_new w1 (.cells #[sl, .int .i64 0, .int .i64 0] 30)
    rw [hs] at this
    exact this
  · exact (heap_alloc_old w1 _ (by omega)).trans hn

theorem NI.step {S : Nat} {w wr w2 : World} {sl : Value} {es : List (Value × Nat × Nat)} {k : Nat} (h : NI S w wr sl es k) (hk : k < es.length)
    (h1 : LB (S + 1) w2 sl (max (dep (es.take k)) (es.getD k e0).2.1) (wsum (es.take k) + (es.getD k e0).2.2)) (h2 : Below (S + 1) wr w2) (h3 : wr.heap.size ≤ w2.heap.size) : NI S w w2 sl es (k + 1) := by
  obtain ⟨a, b, c, d⟩ := h
  refine ⟨?_, (h2.block S (Nat.lt_succ_self S)).trans b, c.trans (h2.mono (Nat.le_succ S)), by omega⟩
  rw [dep_take es k hk, wsum_take es k hk]
  exact h1

set_option maxHeartbeats 4000000 in
set_option maxRecDepth 100000 in
theorem newList_any (ao : Option Addr) (n cap : Nat) (es : List (Value × Nat × Nat)) (w : World) (hv : Rv w.heap.size w (.slice ao n cap) (es.map (·.1)))
    (hm : ∀ k, k < es.length → Meas (es.getD k e0).1 (es.getD k e0).2.1 (es.getD k e0).2.2 ∧ (es.getD k e0).2.1 ≤ 100 ∧ (es.getD k e0).2.2 ≤ 1000000000)
    (hd : ∀ k, k ≤ es.length → dep (es.take k) ≤ 100 ∧ wsum (es.take k) ≤ 1000000000) :
    Calls Try.prog 21 #[.slice ao n cap] w fun e w' => e = .returned (lv ao n cap (dep es) (wsum es)) ∧ Below w.heap.size w w' := by
  have HV := hid hv
  have HM := hid hm
  have HD := hid hd
  obtain ⟨ao', cap', e, hl, hmx, -, -⟩ := hv
  simp only [Value.slice.injEq] at e
  obtain ⟨rfl, rfl, rfl⟩ := e
  rw [List.length_map] at hl hmx ⊢
  clear hm hd
  go_enter Try.func21, Try.ntmps21
  go_wp2
  go_loopw [10] (fun i wr => ∃ k : Nat, k ≤ es.length ∧ i = .int .i64 k ∧ Hid (NI w.heap.size w wr (.slice ao es.length cap) es k)) (fun i _ => es.length - (intOf i).toNat)
  case atStart => exact ⟨0, Nat.zero_le _, rfl, NI.start⟩
  case round =>
    obtain ⟨k, hk, rfl, HN⟩ := hrel
    by_cases hlt : (k : Int) < es.length
    · have hkn : k < es.length := by omega
      obtain ⟨ao2, cap2, e, -, -, -, hc⟩ := HV.out
      simp only [Value.slice.injEq] at e
      obtain ⟨rfl, -, rfl⟩ := e
      obtain ⟨b, off, rfl, hlb, hx⟩ := hc k (by rw [List.length_map]; exact hkn)
      clear hc
      have hx2 := (HN.out.2.2.1.cell (p := ⟨b, off + k, none⟩) hlb).trans hx
      have hev : (es.map (·.1)).getD k (.bool false) = (es.getD k e0).1 := by
        rw [List.getD_eq_getElem?_getD, List.getD_eq_getElem?_getD, List.getElem?_map, List.getElem?_eq_getElem hkn]; rfl
      rw [hev] at hx2
      obtain ⟨hm1, hm2, hm3⟩ := HM.out k hkn
      obtain ⟨hd1, hd2⟩ := HD.out k hk
      have HST : Hid (∀ w2, LB (w.heap.size + 1) w2 (.slice (some ⟨b, off, none⟩) es.length cap) (max (dep (es.take k)) (es.getD k e0).2.1) (wsum (es.take k) + (es.getD k e0).2.2) → Below (w.heap.size + 1) wr w2 → wr.heap.size ≤ w2.heap.size → NI w.heap.size w w2 (.slice (some ⟨b, off, none⟩) es.length cap) es (k + 1)) :=
        fun w2 a b c => HN.out.step hkn a b c
      have HAD := hid (add_any (w.heap.size + 1) (es.getD k e0).1 (.slice (some ⟨b, off, none⟩) es.length cap) _ _ _ _ wr HN.out.1 HN.out.2.2.2 hm1 hd1 hm2 hd2 hm3)
      obtain ⟨ev, hee⟩ : ∃ ev, ev = (es.getD k e0).1 := ⟨_, rfl⟩
      rw [← hee] at hx2 HAD
      clear hee hev hx hm1 hm2 hm3 hd1 hd2
      go_wp2_with (go_at_call 29; refine HAD.out.mono ?_; rintro e w2 ⟨rfl, ha, hb, hc⟩; have HN2 := hid (HST.out w2 ha hb hc); clear ha hb hc)
      go_roundw
      case rel => exact ⟨k + 1, by omega, by go_num, HN2⟩
      case measure => simp [intOf]; omega
    · have hke : k = es.length := by omega
      subst hke
      have hN := HN.out
      rw [NI, List.take_length] at hN
      obtain ⟨hN1, hN2, hN3, hN4⟩ := hN
      obtain ⟨k0, k1, k2⟩ := hN1.cells
      obtain ⟨r0, r1, r2⟩ := hN2.cells
      have f0 := unfrozen_of_block hN2 0
      have f1 := unfrozen_of_block hN2 1
      have f2 := unfrozen_of_block hN2 2
      have HN1 := hid hN1
      have HN2 := hid hN2
      have HN3 := hid hN3
      clear hN1 hN2 hN3
      go_wp2
      refine bodyPost_ret (results_cell_row rfl _ _ w.heap.size 30 #[.slice ao es.length cap, .int .i64 (dep es : Nat), .int .i64 (wsum es : Nat)] (0, 0) _ rfl (LB.set3 HN2.out) Try.underlying30 rfl size30) rfl ?_
      exact ⟨rfl, ((HN3.out.setCell (Nat.le_refl _) _).setCell (Nat.le_refl _) _).setCell (Nat.le_refl _) _⟩
end Go.Proofs.Qxb6609148a
