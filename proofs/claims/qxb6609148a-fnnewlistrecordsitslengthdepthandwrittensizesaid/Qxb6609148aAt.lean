import Derived.Test.Qxb6609148aStrs
namespace Go.Proofs.Qxb6609148a
open Go.RowKit Go.Joins

/-- measure answers (d, m) at v in every world that has grown from W -/
def MeasAt (W : World) (v : Value) (d m : Nat) : Prop := ∀ w, Below W.heap.size W w → Calls Try.prog 38 #[v] w fun e w' => e = .returned (.tuple #[.int .i64 (d : Int), .int .i64 (m : Int)]) ∧ Below w.heap.size w w'
theorem MeasAt.on {W w : World} {v : Value} {d m : Nat} (h : MeasAt W v d m) (hb : Below W.heap.size W w) : MeasAt w v d m := fun w' hb' => h w' (below_on hb hb')
theorem Meas.at {v : Value} {d m : Nat} (h : Meas v d m) (W : World) : MeasAt W v d m := fun w _ => h w

set_option maxHeartbeats 4000000 in
set_option maxRecDepth 100000 in
theorem addAt (g : Nat) (v sl : Value) (d0 t0 d m : Nat) (w : World) (hb : LB g w sl d0 t0) (hg : g < w.heap.size) (hm : Calls Try.prog 38 #[v] w fun e w' => e = .returned (.tuple #[.int .i64 (d : Int), .int .i64 (m : Int)]) ∧ Below w.heap.size w w') (_h1 : d0 ≤ 100) (_h2 : d ≤ 100) (h3 : t0 ≤ 1000000000) (h4 : m ≤ 1000000000) :
    Calls Try.prog 29 #[.pointer (some ⟨g, 1, none⟩), .string { data := #[] }, v] w fun e w' => e = .returned (.tuple #[]) ∧ LB g w' sl (max d0 d) (t0 + m) ∧ Below g w w' ∧ w.heap.size ≤ w'.heap.size := by
  have HM := hid hm
  have HB := hid hb
  clear hm hb
  go_enter Try.func29, Try.ntmps29
  go_wp2_with (go_at_call 38; refine HM.out.mono ?_; rintro e w1 ⟨rfl, hb1⟩; have hB1 : LB g w1 sl d0 t0 := (hb1.block g hg).trans HB.out; obtain ⟨k0, k1, k2⟩ := hB1.cells; have f1 := unfrozen_of_block hB1 1; have f2 := unfrozen_of_block hB1 2; have HB1 := hid hB1; have HW1 := hid hb1; clear hB1 hb1)
  · go_end0
    refine ⟨rfl, ?_, ?_, ?_⟩
    · rw [Nat.max_eq_right (by omega)]
      exact LB.set (d' := d) (t' := t0 + m) HB1.out
    · exact ((HW1.out.mono (Nat.le_of_lt hg)).setCell (Nat.le_refl _) _).setCell (Nat.le_refl _) _
    · have := HW1.out.size
      simpa [World.setCell] using this
  · go_end0
    refine ⟨rfl, ?_, ?_, ?_⟩
    · rw [Nat.max_eq_left (by omega)]
      exact LB.set (d' := d0) (t' := t0 + m) HB1.out
    · exact ((HW1.out.mono (Nat.le_of_lt hg)).setCell (Nat.le_refl _) _).setCell (Nat.le_refl _) _
    · have := HW1.out.size
      simpa [World.setCell] using this

set_option maxHeartbeats 4000000 in
set_option maxRecDepth 100000 in
theorem newListAt (ao : Option Addr) (n cap : Nat) (es : List (Value × Nat × Nat)) (w : World) (hv : Rv w.heap.size w (.slice ao n cap) (es.map (·.1)))
    (hm : ∀ k, k < es.length → MeasAt w (es.getD k e0).1 (es.getD k e0).2.1 (es.getD k e0).2.2 ∧ (es.getD k e0).2.1 ≤ 100 ∧ (es.getD k e0).2.2 ≤ 1000000000)
    (hd : ∀ k, k ≤ es.length → dep (es.take k) ≤ 100 ∧ wsum (es.take k) ≤ 1000000000) :
    Calls Try.prog 21 #[.slice ao n cap] w fun e w' => e = .returned (lv ao n cap (dep es) (wsum es)) ∧ Below w.heap.size w w' := by
  have HV := hid hv
  have HM := hid hm
  have HD := hid hd
  obtain ⟨ao', cap', e, hl, hmx, -, -⟩ := hv
  simp only [Value.slice.injEq] at e
  obtain ⟨rfl, rfl, rfl⟩ := e
  rw [List.length_map] at hl hmx ⊢
  clear hm hd
  go_enter Try.func21, Try.ntmps21
  go_wp2
  go_loopw [10] (fun i wr => ∃ k : Nat, k ≤ es.length ∧ i = .int .i64 k ∧ Hid (NI w.heap.size w wr (.slice ao es.length cap) es k)) (fun i _ => es.length - (intOf i).toNat)
  case atStart => exact ⟨0, Nat.zero_le _, rfl, NI.start⟩
  case round =>
    obtain ⟨k, hk, rfl, HN⟩ := hrel
    by_cases hlt : (k : Int) < es.length
    · have hkn : k < es.length := by omega
      obtain ⟨ao2, cap2, e, -, -, -, hc⟩ := HV.out
      simp only [Value.slice.injEq] at e
      obtain ⟨rfl, -, rfl⟩ := e
      obtain ⟨b, off, rfl, hlb, hx⟩ := hc k (by rw [List.length_map]; exact hkn)
      clear hc
      have hx2 := (HN.out.2.2.1.cell (p := ⟨b, off + k, none⟩) hlb).trans hx
      have hev : (es.map (·.1)).getD k (.bool false) = (es.getD k e0).1 := by
        rw [List.getD_eq_getElem?_getD, List.getD_eq_getElem?_getD, List.getElem?_map, List.getElem?_eq_getElem hkn]; rfl
      rw [hev] at hx2
      obtain ⟨hm1, hm2, hm3⟩ := HM.out k hkn
      obtain ⟨hd1, hd2⟩ := HD.out k hk
      have HST : Hid (∀ w2, LB (w.heap.size + 1) w2 (.slice (some ⟨b, off, none⟩) es.length cap) (max (dep (es.take k)) (es.getD k e0).2.1) (wsum (es.take k) + (es.getD k e0).2.2) → Below (w.heap.size + 1) wr w2 → wr.heap.size ≤ w2.heap.size → NI w.heap.size w w2 (.slice (some ⟨b, off, none⟩) es.length cap) es (k + 1)) :=
        fun w2 a b c => HN.out.step hkn a b c
      have HAD := hid (addAt (w.heap.size + 1) (es.getD k e0).1 (.slice (some ⟨b, off, none⟩) es.length cap) _ _ _ _ wr HN.out.1 HN.out.2.2.2 (hm1 wr HN.out.2.2.1) hd1 hm2 hd2 hm3)
      obtain ⟨ev, hee⟩ : ∃ ev, ev = (es.getD k e0).1 := ⟨_, rfl⟩
      rw [← hee] at hx2 HAD
      clear hee hev hx hm1 hm2 hm3 hd1 hd2
      go_wp2_with (go_at_call 29; refine HAD.out.mono ?_; rintro e w2 ⟨rfl, ha, hb, hc⟩; have HN2 := hid (HST.out w2 ha hb hc); clear ha hb hc)
      go_roundw
      case rel => exact ⟨k + 1, by omega, by go_num, HN2⟩
      case measure => simp [intOf]; omega
    · have hke : k = es.length := by omega
      subst hke
      have hN := HN.out
      rw [NI, List.take_length] at hN
      obtain ⟨hN1, hN2, hN3, hN4⟩ := hN
      obtain ⟨k0, k1, k2⟩ := hN1.cells
      obtain ⟨r0, r1, r2⟩ := hN2.cells
      have f0 := unfrozen_of_block hN2 0
      have f1 := unfrozen_of_block hN2 1
      have f2 := unfrozen_of_block hN2 2
      have HN1 := hid hN1
      have HN2 := hid hN2
      have HN3 := hid hN3
      clear hN1 hN2 hN3
      go_wp2
      refine bodyPost_ret (results_cell_row rfl _ _ w.heap.size 30 #[.slice ao es.length cap, .int .i64 (dep es : Nat), .int .i64 (wsum es : Nat)] (0, 0) _ rfl (LB.set3 HN2.out) Try.underlying30 rfl size30) rfl ?_
      exact ⟨rfl, ((HN3.out.setCell (Nat.le_refl _) _).setCell (Nat.le_refl _) _).setCell (Nat.le_refl _) _⟩

set_option maxHeartbeats 4000000 in
theorem newPairAt (G : Nat) (v1 v2 : Value) (d1 m1 d2 m2 : Nat) (w : World) (hb : w.heap[G]? = some (.cells #[v1, v2] 47)) (h1 : MeasAt w v1 d1 m1) (h2 : MeasAt w v2 d2 m2) (hd1 : d1 ≤ 100) (hd2 : d2 ≤ 100) (hm1 : m1 ≤ 100000000) (hm2 : m2 ≤ 100000000) :
    Calls Try.prog 21 #[.slice (some ⟨G, 0, none⟩) 2 2] w fun e w' => e = .returned (lv (some ⟨G, 0, none⟩) 2 2 (max d1 d2) (m1 + m2)) ∧ Below w.heap.size w w' := by
  have := newListAt (some ⟨G, 0, none⟩) 2 2 [(v1, d1, m1), (v2, d2, m2)] w ?_ ?_ ?_
  · rw [(pair_es v1 v2 d1 m1 d2 m2).1, (pair_es v1 v2 d1 m1 d2 m2).2] at this
    exact this
  · refine ⟨some ⟨G, 0, none⟩, 2, rfl, by simp, by simp, (by simp), fun k hk => ⟨G, 0, rfl, (Array.getElem?_eq_some_iff.1 hb).1, ?_⟩⟩
    rw [cell_of_block hb, Nat.zero_add]
    have hk2 : k < 2 := hk
    match k, hk2 with
    | 0, _ => rfl
    | 1, _ => rfl
  · intro k hk
    have hk2 : k < 2 := hk
    match k, hk2 with
    | 0, _ => exact ⟨h1, hd1, show m1 ≤ 1000000000 by omega⟩
    | 1, _ => exact ⟨h2, hd2, show m2 ≤ 1000000000 by omega⟩
  · intro k hk
    have hk2 : k ≤ 2 := hk
    match k, hk2 with
    | 0, _ => simp [dep, wsum]
    | 1, _ => simp [dep, wsum]; omega
    | 2, _ => simp [dep, wsum]; omega


set_option maxHeartbeats 4000000 in
set_option maxRecDepth 100000 in
theorem pairAt (t1 t2 : TypeId) (u1 u2 : Value) (d1 m1 d2 m2 : Nat) (w : World) (h1 : MeasAt w (.iface t1 u1) d1 m1) (h2 : MeasAt w (.iface t2 u2) d2 m2) (hd1 : d1 ≤ 100) (hd2 : d2 ≤ 100) (hm1 : m1 ≤ 100000000) (hm2 : m2 ≤ 100000000) :
    Calls Try.prog 13 #[.iface t1 u1, .iface t2 u2] w fun e w' => LvE 2 (max d1 d2) (m1 + m2) e ∧ Below w.heap.size w w' := by
  obtain ⟨wa, hwa⟩ : ∃ wa, wa = w.alloc (.cells #[.slice none 0 0, .int .i64 0, .int .i64 0] 30) := ⟨_, rfl⟩
  obtain ⟨wb, hwb⟩ : ∃ wb, wb = wa.alloc (.cells #[.iface t1 u1, .iface t2 u2] 47) := ⟨_, rfl⟩
  have hsa : wa.heap.size = w.heap.size + 1 := by rw [hwa]; simp
  have hsb : w.heap.size < wb.heap.size := by rw [hwb]; simp; omega
  have hla : LB w.heap.size wa (.slice none 0 0) 0 0 := by rw [hwa]; exact heap_alloc_new w _
  have hba : Below w.heap.size w wa := by rw [hwa]; exact (Below.refl _ _).alloc (Nat.le_refl _) _
  have hbb : Below wa.heap.size wa wb := by rw [hwb]; exact (Below.refl _ _).alloc (Nat.le_refl _) _
  have hnb : wb.heap[w.heap.size + 1]? = some (.cells #[.iface t1 u1, .iface t2 u2] 47) := by rw [← hsa, hwb]; exact heap_alloc_new wa _
  have G4 : Hid (LB w.heap.size wb (.slice none 0 0) 0 0) := (hbb.block _ (by omega)).trans hla
  have G5 : Hid (Below w.heap.size w wb) := hba.trans (hbb.mono (by omega))
  obtain ⟨D, hD⟩ : ∃ D, D = max d1 d2 := ⟨_, rfl⟩
  obtain ⟨T, hT⟩ : ∃ T, T = m1 + m2 := ⟨_, rfl⟩
  have HNL := hid (newPairAt (w.heap.size + 1) _ _ d1 m1 d2 m2 wb hnb (h1.on G5.out) (h2.on G5.out) hd1 hd2 hm1 hm2)
  rw [hwa] at hwb
  have HWB := hid hwb
  rw [← hD, ← hT] at HNL ⊢
  unfold lv at HNL
  clear h1 h2 hwa hwb hla hba hbb hnb hD hT
  go_enter Try.func13, Try.ntmps13
  go_wp2_with (go_at_call 21; rw [← HWB.out]; refine HNL.out.mono ?_; rintro e w3 ⟨rfl, hb3⟩; have hl3 : LB w.heap.size w3 (.slice none 0 0) 0 0 := (hb3.block _ hsb).trans G4.out; obtain ⟨r0, r1, r2⟩ := hl3.cells; have f0 := unfrozen_of_block hl3 0; have f1 := unfrozen_of_block hl3 1; have f2 := unfrozen_of_block hl3 2; have HL3 := hid hl3; have HB3 := hid (G5.out.trans (hb3.mono (Nat.le_of_lt hsb))); clear hl3 hb3)
  refine bodyPost_ret (results_cell_row rfl _ _ w.heap.size 30 #[.slice (some ⟨w.heap.size + 1, 0, none⟩) 2 2, .int .i64 (D : Nat), .int .i64 (T : Nat)] (0, 0) _ rfl (LB.set3 HL3.out) Try.underlying30 rfl size30) rfl ?_
  exact ⟨⟨_, _, rfl, by omega⟩, ((HB3.out.setCell (Nat.le_refl _) _).setCell (Nat.le_refl _) _).setCell (Nat.le_refl _) _⟩

end Go.Proofs.Qxb6609148a
