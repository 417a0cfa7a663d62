import Derived.Test.Qxb6609148aList
namespace Go.Proofs.Qxb6609148a
open Go.RowKit Go.Joins

theorem info47 : (Try.prog.info? 47).map (fun i => (i.zero, i.size, i.bytes)) = some (some .nilIface, 1, 16) := by kernel_rfl
theorem own_block {w : World} {B e g n : Nat} {xs : List Value} (h : w.ownsRow B e 1 (.slice (some ⟨g, 0, none⟩) n n) n xs) : ∃ L : List Value, L.length = n ∧ w.heap[g]? = some (.cells L.toArray e) := by
  rcases h.2 with ⟨h1, _⟩ | ⟨g', cap, cur, h1, _, h2, _, _, h3, _⟩
  · simp at h1
  · simp only [Value.slice.injEq, Option.some.injEq, Addr.mk.injEq] at h1
    obtain ⟨⟨rfl, -, -⟩, -, rfl⟩ := h1
    exact ⟨cur.toList, by simpa using h3, by simpa using h2⟩

/-- a list of n elements came back -/
def LvE (n d t : Nat) (e : Ending) : Prop := ∃ ao cap, e = .returned (lv ao n cap d t) ∧ cap ≤ 9223372036854775807

/-- a string as a value of the language -/
def strV (s : ByteArray) : Value := .iface 33 (.string s)
def strE (ss : List ByteArray) : List (Value × Nat × Nat) := ss.map fun s => (strV s, 0, 1 + s.size)

/-- what stands when k strings are laid: S the result's block, G the row's -/
def SI (S G : Nat) (w wr : World) (ss : List ByteArray) (k : Nat) : Prop :=
  ∃ L : List Value, L.length = ss.length ∧ wr.heap[G]? = some (.cells L.toArray 47) ∧ (∀ j, j < k → L[j]? = some (strV (ss.getD j .empty))) ∧ LB S wr (.slice none 0 0) 0 0 ∧ Below S w wr ∧ G < wr.heap.size

theorem SI.step {S G : Nat} {w wr : World} {ss : List ByteArray} {k : Nat} (h : SI S G w wr ss k) (hSG : S < G) (hk : k < ss.length) : SI S G w (wr.setCell ⟨G, k, none⟩ (strV (ss.getD k .empty))) ss (k + 1) := by
  obtain ⟨L, h1, h2, h3, h4, h5, h6⟩ := h
  refine ⟨L.set k (strV (ss.getD k .empty)), by simp [h1], ?_, ?_, ?_, h5.setCell (Nat.le_of_lt hSG) _, by simpa [World.setCell] using h6⟩
  · rw [block_setCell (i := k) h2]; simp
  · intro j hj
    by_cases e : j = k
    · subst e
      rw [List.getElem?_set_self (by omega)]
    · rw [List.getElem?_set_ne (by omega)]; exact h3 j (by omega)
  · have := ((Below.refl G wr).setCell (p := ⟨G, k, none⟩) (Nat.le_refl _) (strV (ss.getD k .empty))).block S hSG
    exact this.trans h4

theorem dep_str (ss : List ByteArray) : dep (strE ss) = 0 := by
  unfold dep strE
  rw [List.foldl_map]
  induction ss with
  | nil => rfl
  | cons s ss ih => simpa using ih
theorem wsum_str (ss : List ByteArray) : wsum (strE ss) = ss.length + tot ss := by
  unfold wsum strE tot
  induction ss with
  | nil => rfl
  | cons s ss ih => simp at ih ⊢; omega
theorem tot_take_le (ss : List ByteArray) (k : Nat) : tot (ss.take k) ≤ tot ss := by
  have h := tot_app (ss.take k) (ss.drop k)
  rw [List.take_append_drop] at h
  omega
theorem size_le_tot (ss : List ByteArray) (k : Nat) (h : k < ss.length) : (ss.getD k .empty).size ≤ tot ss := by
  have h1 := tot_take ss k h
  have h2 := tot_take_le ss (k + 1)
  omega
theorem strE_take (ss : List ByteArray) (k : Nat) : (strE ss).take k = strE (ss.take k) := by unfold strE; rw [List.map_take]
theorem strE_getD (ss : List ByteArray) (k : Nat) (h : k < ss.length) : (strE ss).getD k e0 = (strV (ss.getD k .empty), 0, 1 + (ss.getD k .empty).size) := by
  unfold strE
  rw [List.getD_eq_getElem?_getD, List.getD_eq_getElem?_getD, List.getElem?_map, List.getElem?_eq_getElem h]; rfl

theorem SI.fin {S G : Nat} {w wr : World} {ss : List ByteArray} (h : SI S G w wr ss ss.length) (hn : ss.length ≤ 65536) : Rv wr.heap.size wr (.slice (some ⟨G, 0, none⟩) ss.length ss.length) ((strE ss).map (·.1)) := by
  obtain ⟨L, h1, h2, h3, h4, h5, h6⟩ := h
  have hl : ((strE ss).map (·.1)).length = ss.length := by unfold strE; simp
  refine ⟨some ⟨G, 0, none⟩, ss.length, by rw [hl], by omega, by omega, (by simp), fun k hk => ⟨G, 0, rfl, h6, ?_⟩⟩
  rw [hl] at hk
  rw [cell_of_block h2]
  have e : ((strE ss).map (·.1)).getD k (.bool false) = strV (ss.getD k .empty) := by
    unfold strE
    rw [List.getD_eq_getElem?_getD, List.getD_eq_getElem?_getD, List.map_map, List.getElem?_map, List.getElem?_eq_getElem hk]; rfl
  rw [e, Nat.zero_add]
  simpa using h3 k hk

set_option maxHeartbeats 4000000 in
theorem newStrs (G : Nat) (ss : List ByteArray) (w wr : World) (S : Nat) (h : SI S G w wr ss ss.length) (hz : 16 * ss.length + tot ss ≤ 1048576) :
    Calls Try.prog 21 #[.slice (some ⟨G, 0, none⟩) ss.length ss.length] wr fun e w' => e = .returned (lv (some ⟨G, 0, none⟩) ss.length ss.length 0 (ss.length + tot ss)) ∧ Below wr.heap.size wr w' := by
  have := newList_any (some ⟨G, 0, none⟩) ss.length ss.length (strE ss) wr (h.fin (by omega)) ?_ ?_
  · rw [dep_str, wsum_str] at this
    exact this
  · intro k hk
    have hk' : k < ss.length := by simpa [strE] using hk
    have := size_le_tot ss k hk'
    rw [strE_getD ss k hk']
    exact ⟨meas_string _ (by omega), Nat.zero_le _, show 1 + (ss.getD k .empty).size ≤ 1000000000 by omega⟩
  · intro k hk
    have := tot_take_le ss k
    rw [strE_take, dep_str, wsum_str]
    simp
    omega

set_option maxHeartbeats 4000000 in
set_option maxRecDepth 100000 in
theorem stringList_any (v : Value) (ss : List ByteArray) (w : World) (h : Rs w.heap.size w v ss) (hz : 16 * ss.length + tot ss ≤ 1048576) :
    Calls Try.prog 9 #[v] w fun e w' => LvE ss.length 0 (ss.length + tot ss) e ∧ Below w.heap.size w w' := by
  obtain ⟨i0, hinf, hz0, hz1, hz2⟩ := info_parts info47
  obtain ⟨ao, cap, rfl, hl, hm, -, hc⟩ := h.parts
  have HC := hid hc
  have hn : ss.length ≤ 65536 := by omega
  have HZ := hid hz
  clear hc h hz
  obtain ⟨wa, hwa⟩ : ∃ wa, wa = w.alloc (.cells #[.slice none 0 0, .int .i64 0, .int .i64 0] 30) := ⟨_, rfl⟩
  have hsz : w.heap.size < wa.heap.size := by rw [hwa]; simp
  have HLA : Hid (LB w.heap.size wa (.slice none 0 0) 0 0) := by rw [hwa]; exact heap_alloc_new w _
  have HBA : Hid (Below w.heap.size w wa) := by rw [hwa]; exact (Below.refl _ _).alloc (Nat.le_refl _) _
  have HWA := hid hwa
  clear hwa
  go_enter Try.func9, Try.ntmps9
  go_wp2_with (first
    | (at_make; rw [← HWA.out]; refine wpList_make_full _ rfl (.tmp 7) (.tmp 7) 26 rfl wa.heap.size 47 i0 .nilIface 1 Try.underlying26 hinf hz0 hz1 .i64 .i64 _ _ ss.length rfl rfl rfl rfl (by rw [hz2]; omega) (by unfold maxLen; omega) (Nat.le_refl _) ?_; intro w1 hown hgr; obtain ⟨L, hL, hblk⟩ := own_block hown; have hbel : Below wa.heap.size wa w1 := (Below.refl _ _).grown hgr (Nat.le_refl _) (by simp); have HI : Hid (SI w.heap.size wa.heap.size w w1 ss 0) := ⟨L, hL, hblk, fun j hj => absurd hj (Nat.not_lt_zero j), (hbel.block _ hsz).trans HLA.out, HBA.out.trans (hbel.mono (Nat.le_of_lt hsz)), (Array.getElem?_eq_some_iff.1 hblk).1⟩; clear hown hgr hL hblk hbel))
  go_loopw [11] (fun i wr => ∃ k : Nat, k ≤ ss.length ∧ i = .int .i64 k ∧ Hid (SI w.heap.size wa.heap.size w wr ss k)) (fun i _ => ss.length - (intOf i).toNat)
  case atStart => exact ⟨0, Nat.zero_le _, rfl, HI⟩
  case round =>
    obtain ⟨k, hk, rfl, HI2⟩ := hrel
    by_cases hlt : (k : Int) < ss.length
    · have hkn : k < ss.length := by omega
      obtain ⟨b, off, rfl, hlb, hx⟩ := HC.out k hkn
      obtain ⟨L, g1, g2, g3, g4, g5, g6⟩ := HI2.out
      have hx2 := (g5.cell (p := ⟨b, off + k, none⟩) hlb).trans hx
      have hcl : ∃ old, wr.cell? ⟨wa.heap.size, k, none⟩ = some old := ⟨L[k]'(by omega), by rw [cell_of_block g2]; simp⟩
      obtain ⟨old, hcl⟩ := hcl
      have hfr := unfrozen_of_block g2 k
      have HI3 := hid (HI2.out.step hsz hkn)
      obtain ⟨s, hse⟩ : ∃ s, s = ss.getD k .empty := ⟨_, rfl⟩
      rw [← hse] at hx2 HI3
      unfold strV at HI3
      clear hse hx g1 g2 g3 g4 g5 g6
      go_wp2
      go_roundw
      case rel => exact ⟨k + 1, by omega, by go_num, HI3⟩
      case measure => simp [intOf]; omega
    · have hke : k = ss.length := by omega
      subst hke
      have HNL := hid (newStrs wa.heap.size ss w wr w.heap.size HI2.out HZ.out)
      unfold lv at HNL
      obtain ⟨L, g1, g2, g3, g4, g5, g6⟩ := HI2.out
      have hlt2 : w.heap.size < wr.heap.size := by omega
      have G4 := hid g4
      have G5 := hid g5
      clear g1 g2 g3 g4 g5 g6
      obtain ⟨T, hT⟩ : ∃ T, T = ss.length + tot ss := ⟨_, rfl⟩
      rw [← hT] at HNL
      have HTT := hid hT
      clear hT
      go_wp2_with (go_at_call 21; refine HNL.out.mono ?_; rintro e w3 ⟨rfl, hb3⟩; have hl3 : LB w.heap.size w3 (.slice none 0 0) 0 0 := (hb3.block _ hlt2).trans G4.out; obtain ⟨r0, r1, r2⟩ := hl3.cells; have f0 := unfrozen_of_block hl3 0; have f1 := unfrozen_of_block hl3 1; have f2 := unfrozen_of_block hl3 2; have HL3 := hid hl3; have HB3 := hid (G5.out.trans (hb3.mono (Nat.le_of_lt hlt2))); clear hl3 hb3)
      refine bodyPost_ret (results_cell_row rfl _ _ w.heap.size 30 #[.slice (some ⟨wa.heap.size, 0, none⟩) ss.length ss.length, .int .i64 (0 : Nat), .int .i64 (T : Nat)] (0, 0) _ rfl (LB.set3 HL3.out) Try.underlying30 rfl size30) rfl ?_
      refine ⟨⟨_, _, by rw [← HTT.out]; rfl, ?_⟩, ((HB3.out.setCell (Nat.le_refl _) _).setCell (Nat.le_refl _) _).setCell (Nat.le_refl _) _⟩
      omega

theorem pair_es (v1 v2 : Value) (d1 m1 d2 m2 : Nat) : dep [(v1, d1, m1), (v2, d2, m2)] = max d1 d2 ∧ wsum [(v1, d1, m1), (v2, d2, m2)] = m1 + m2 := by
  constructor
  · simp [dep]
  · simp [wsum]

set_option maxHeartbeats 4000000 in
theorem newPair (G : Nat) (v1 v2 : Value) (d1 m1 d2 m2 : Nat) (w : World) (hb : w.heap[G]? = some (.cells #[v1, v2] 47)) (h1 : Meas v1 d1 m1) (h2 : Meas v2 d2 m2) (hd1 : d1 ≤ 100) (hd2 : d2 ≤ 100) (hm1 : m1 ≤ 100000000) (hm2 : m2 ≤ 100000000) :
    Calls Try.prog 21 #[.slice (some ⟨G, 0, none⟩) 2 2] w fun e w' => e = .returned (lv (some ⟨G, 0, none⟩) 2 2 (max d1 d2) (m1 + m2)) ∧ Below w.heap.size w w' := by
  have := newList_any (some ⟨G, 0, none⟩) 2 2 [(v1, d1, m1), (v2, d2, m2)] w ?_ ?_ ?_
  · rw [(pair_es v1 v2 d1 m1 d2 m2).1, (pair_es v1 v2 d1 m1 d2 m2).2] at this
    exact this
  · refine ⟨some ⟨G, 0, none⟩, 2, rfl, by simp, by simp, (by simp), fun k hk => ⟨G, 0, rfl, (Array.getElem?_eq_some_iff.1 hb).1, ?_⟩⟩
    rw [cell_of_block hb, Nat.zero_add]
    have hk2 : k < 2 := hk
    match k, hk2 with
    | 0, _ => rfl
    | 1, _ => rfl
  · intro k hk
    have hk2 : k < 2 := hk
    match k, hk2 with
    | 0, _ => exact ⟨h1, hd1, show m1 ≤ 1000000000 by omega⟩
    | 1, _ => exact ⟨h2, hd2, show m2 ≤ 1000000000 by omega⟩
  · intro k hk
    have hk2 : k ≤ 2 := hk
    match k, hk2 with
    | 0, _ => simp [dep, wsum]
    | 1, _ => simp [dep, wsum]; omega
    | 2, _ => simp [dep, wsum]; omega

set_option maxHeartbeats 4000000 in
set_option maxRecDepth 100000 in
theorem pair_any (t1 t2 : TypeId) (u1 u2 : Value) (d1 m1 d2 m2 : Nat) (w : World) (h1 : Meas (.iface t1 u1) d1 m1) (h2 : Meas (.iface t2 u2) d2 m2) (hd1 : d1 ≤ 100) (hd2 : d2 ≤ 100) (hm1 : m1 ≤ 100000000) (hm2 : m2 ≤ 100000000) :
    Calls Try.prog 13 #[.iface t1 u1, .iface t2 u2] w fun e w' => LvE 2 (max d1 d2) (m1 + m2) e ∧ Below w.heap.size w w' := by
  obtain ⟨wa, hwa⟩ : ∃ wa, wa = w.alloc (.cells #[.slice none 0 0, .int .i64 0, .int .i64 0] 30) := ⟨_, rfl⟩
  obtain ⟨wb, hwb⟩ : ∃ wb, wb = wa.alloc (.cells #[.iface t1 u1, .iface t2 u2] 47) := ⟨_, rfl⟩
  have hsa : wa.heap.size = w.heap.size + 1 := by rw [hwa]; simp
  have hsb : w.heap.size < wb.heap.size := by rw [hwb]; simp; omega
  have hla : LB w.heap.size wa (.slice none 0 0) 0 0 := by rw [hwa]; exact heap_alloc_new w _
  have hba : Below w.heap.size w wa := by rw [hwa]; exact (Below.refl _ _).alloc (Nat.le_refl _) _
  have hbb : Below wa.heap.size wa wb := by rw [hwb]; exact (Below.refl _ _).alloc (Nat.le_refl _) _
  have hnb : wb.heap[w.heap.size + 1]? = some (.cells #[.iface t1 u1, .iface t2 u2] 47) := by rw [← hsa, hwb]; exact heap_alloc_new wa _
  have G4 : Hid (LB w.heap.size wb (.slice none 0 0) 0 0) := (hbb.block _ (by omega)).trans hla
  have G5 : Hid (Below w.heap.size w wb) := hba.trans (hbb.mono (by omega))
  obtain ⟨D, hD⟩ : ∃ D, D = max d1 d2 := ⟨_, rfl⟩
  obtain ⟨T, hT⟩ : ∃ T, T = m1 + m2 := ⟨_, rfl⟩
  have HNL := hid (newPair (w.heap.size + 1) _ _ d1 m1 d2 m2 wb hnb h1 h2 hd1 hd2 hm1 hm2)
  rw [hwa] at hwb
  have HWB := hid hwb
  rw [← hD, ← hT] at HNL ⊢
  unfold lv at HNL
  clear h1 h2 hwa hwb hla hba hbb hnb hD hT
  go_enter Try.func13, Try.ntmps13
  go_wp2_with (go_at_call 21; rw [← HWB.out]; refine HNL.out.mono ?_; rintro e w3 ⟨rfl, hb3⟩; have hl3 : LB w.heap.size w3 (.slice none 0 0) 0 0 := (hb3.block _ hsb).trans G4.out; obtain ⟨r0, r1, r2⟩ := hl3.cells; have f0 := unfrozen_of_block hl3 0; have f1 := unfrozen_of_block hl3 1; have f2 := unfrozen_of_block hl3 2; have HL3 := hid hl3; have HB3 := hid (G5.out.trans (hb3.mono (Nat.le_of_lt hsb))); clear hl3 hb3)
  refine bodyPost_ret (results_cell_row rfl _ _ w.heap.size 30 #[.slice (some ⟨w.heap.size + 1, 0, none⟩) 2 2, .int .i64 (D : Nat), .int .i64 (T : Nat)] (0, 0) _ rfl (LB.set3 HL3.out) Try.underlying30 rfl size30) rfl ?_
  exact ⟨⟨_, _, rfl, by omega⟩, ((HB3.out.setCell (Nat.le_refl _) _).setCell (Nat.le_refl _) _).setCell (Nat.le_refl _) _⟩

theorem extent_any (ao : Option Addr) (n cap d t : Nat) (w : World) :
    Calls Try.prog 17 #[lv ao n cap d t] w fun e w' => e = .returned (.tuple #[.int .i64 (d : Int), .int .i64 (t : Int)]) ∧ Below w.heap.size w w' := by
  unfold lv
  go_enter Try.func17, Try.ntmps17
  go_wp2
  go_quiet (fail)
  go_wp2
  go_ret2
  exact ⟨rfl, below_drewN ((Below.refl _ _).alloc (Nat.le_refl _) _) nq⟩

theorem len_any (ao : Option Addr) (n cap d t : Nat) (w : World) :
    Calls Try.prog 18 #[lv ao n cap d t] w fun e w' => e = .returned (.int .i64 (n : Int)) ∧ Below w.heap.size w w' := by
  unfold lv
  go_enter Try.func18, Try.ntmps18
  go_wp2
  go_ret
  exact ⟨rfl, (Below.refl _ _).alloc (Nat.le_refl _) _⟩
end Go.Proofs.Qxb6609148a
