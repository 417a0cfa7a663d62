import Derived.Test.Qxb6609148aAt
import Derived.Test.Qxb6609148aBig
namespace Go.Proofs.Qxb6609148a
open Go.RowKit Go.Joins

/-- what magnitude (func 24) answers -/
def MagC : Prop := ∀ (p : Value) (a : Nat) (w : World), Ip w.heap.size w p a → a < 18446744073709551616 → Calls Try.prog 24 #[p] w fun e w' => e = .returned (.int .i64 (bc a : Int)) ∧ w' = w

theorem size36 : (Try.prog.info? 36).map (·.size) = some 1 := by kernel_rfl

theorem intBig_any (g : Nat) (w : World) :
    Calls Try.prog 25 #[.agg #[.pointer (some ⟨g, 0, none⟩)]] w fun e w' => e = .returned (.pointer (some ⟨g, 0, none⟩)) ∧ Below w.heap.size w w' := by
  go_enter Try.func25, Try.ntmps25
  go_wp2
  go_ret
  exact ⟨rfl, (Below.refl _ _).alloc (Nat.le_refl _) _⟩

set_option maxHeartbeats 4000000 in
set_option maxRecDepth 100000 in
theorem measureI (hM : Hid MagC) (g a : Nat) (w : World) (h : Ip w.heap.size w (.pointer (some ⟨g, 0, none⟩)) a) (ha : a < 18446744073709551616) :
    Calls Try.prog 38 #[.iface 36 (.agg #[.pointer (some ⟨g, 0, none⟩)])] w fun e w' => e = .returned (.tuple #[.int .i64 ((0 : Nat) : Int), .int .i64 ((1 + bc a : Nat) : Int)]) ∧ Below w.heap.size w w' := by
  have hba : bc a ≤ 8 := bc_le 8 a (by simpa using ha)
  have h1 := ta_miss 36 30 47 (.agg #[.pointer (some ⟨g, 0, none⟩)]) _ Try.underlying30 (by decide) Try.zeroValue30
  have h2 := ta_miss 36 51 47 (.agg #[.pointer (some ⟨g, 0, none⟩)]) _ Try.underlying51 (by decide) Try.zeroValue51
  have h3 := ta_miss 36 55 47 (.agg #[.pointer (some ⟨g, 0, none⟩)]) _ Try.underlying55 (by decide) Try.zeroValue55
  have h4 := ta_miss_string 36 33 47 (.agg #[.pointer (some ⟨g, 0, none⟩)]) _ Try.underlying33 (by decide) Try.zeroValue33
  have h5 := ta_hit (P := Try.prog) 36 47 (.agg #[.pointer (some ⟨g, 0, none⟩)]) Try.underlying36
  obtain ⟨wa, hwa⟩ : ∃ wa, wa = w.alloc (.cells #[.pointer (some ⟨g, 0, none⟩)] 36) := ⟨_, rfl⟩
  have hb : Below w.heap.size w wa := by rw [hwa]; exact (Below.refl _ _).alloc (Nat.le_refl _) _
  have HI := hid (h.on hb)
  have HB := hid hb
  have HW := hid hwa
  have HC := hid (intBig_any g wa)
  have HA := hid ha
  clear h hb hwa ha
  obtain ⟨M, hMe⟩ : ∃ M, M = bc a := ⟨_, rfl⟩
  have HD := hid (fun (w2 : World) (hb2 : Below wa.heap.size wa w2) => hM.out (.pointer (some ⟨g, 0, none⟩)) a w2 (HI.out.on hb2) HA.out)
  rw [← hMe] at HD hba ⊢
  clear hMe
  go_enter Try.func38, Try.ntmps38
  go_wp2_with fail
  rw [← HW.out]
  refine HC.out.mono ?_
  rintro e w2 ⟨rfl, hb2⟩
  have HB2 := hid (below_on HB.out hb2)
  have HD2 := hid (HD.out w2 hb2)
  clear hb2
  go_wp2_with fail
  refine HD2.out.mono ?_
  rintro e w' ⟨rfl, hw⟩
  have hw2 := hw.symm
  clear hw
  subst hw2
  go_wp2_with fail
  go_ret2
  exact ⟨ret_ii rfl (by omega), HB2.out⟩

theorem meas_int (hM : Hid MagC) (g a : Nat) (W : World) (h : Ip W.heap.size W (.pointer (some ⟨g, 0, none⟩)) a) (ha : a < 18446744073709551616) :
    MeasAt W (.iface 36 (.agg #[.pointer (some ⟨g, 0, none⟩)])) 0 (1 + bc a) := fun w hb => measureI hM g a w (h.on hb) ha

theorem ip_store {w : World} {k : Nat} {p u : Value} {a : Nat} (hb : w.heap[k]? = some (.cells #[.pointer none] 36)) (h : Ip w.heap.size w p a) : Ip (w.setCell ⟨k, 0, none⟩ u).heap.size (w.setCell ⟨k, 0, none⟩ u) p a := by
  obtain ⟨g, h1, h2, h3⟩ := h
  have hs : (w.setCell ⟨k, 0, none⟩ u).heap.size = w.heap.size := by simp [World.setCell]
  have hg : ∀ v, w.cell? ⟨g, 1, none⟩ = some v → (w.setCell ⟨k, 0, none⟩ u).cell? ⟨g, 1, none⟩ = some v := fun v hv => by
    rw [World.cell?_setCell_other (h := by intro e; simp at e)]; exact hv
  refine ⟨g, h1, by rw [hs]; exact h2, ?_⟩
  rcases h3 with ⟨e, h3⟩ | ⟨e, q, h4, h5, h6⟩
  · exact .inl ⟨e, hg _ h3⟩
  · refine .inr ⟨e, q, by rw [hs]; exact h4, hg _ h5, ?_⟩
    have hne : q ≠ k := by
      intro e2
      rw [e2, cell_of_block hb] at h6
      simp at h6
    rw [World.cell?_setCell_other (h := by intro e2; simp only [Addr.mk.injEq, and_true] at e2; exact hne e2.symm)]
    exact h6

theorem zzInteger_any (x : Int) (w : World) (h : -9223372036854775808 ≤ x ∧ x ≤ 9223372036854775807) :
    Calls Try.prog 12 #[.int .i64 x] w fun e w' => ∃ g, e = .returned (.agg #[.pointer (some ⟨g, 0, none⟩)]) ∧ Ip w'.heap.size w' (.pointer (some ⟨g, 0, none⟩)) x.natAbs ∧ Below w.heap.size w w' := by
  obtain ⟨wa, hwa⟩ : ∃ wa, wa = w.alloc (.cells #[.pointer none] 36) := ⟨_, rfl⟩
  have hb : Below w.heap.size w wa := by rw [hwa]; exact (Below.refl _ _).alloc (Nat.le_refl _) _
  have hk : wa.heap[w.heap.size]? = some (.cells #[.pointer none] 36) := by rw [hwa]; exact heap_alloc_new w _
  have hlt : w.heap.size < wa.heap.size := by rw [hwa]; simp
  have HB := hid hb
  have HK := hid hk
  have HW := hid hwa
  have HC := hid (newInt_any x wa h)
  clear hb hk hwa
  go_enter Try.func12, Try.ntmps12
  go_wp2_with fail
  rw [← HW.out]
  refine HC.out.mono ?_
  rintro e w2 ⟨p, rfl, hip, hb2⟩
  obtain ⟨g, rfl, -⟩ := id hip
  have hk2 : w2.heap[w.heap.size]? = some (.cells #[.pointer none] 36) := (hb2.block _ hlt).trans HK.out
  have c0 : w2.cell? ⟨w.heap.size, 0, none⟩ = some (.pointer none) := by rw [cell_of_block hk2]; rfl
  have f0 := unfrozen_of_block hk2 0
  have HK2 := hid hk2
  have HB2 := hid (HB.out.trans (hb2.mono (Nat.le_of_lt hlt)))
  have HIP := hid hip
  clear hk2 hb2 hip
  go_wp2_with fail
  refine bodyPost_ret (results_cell_row rfl _ _ w.heap.size 36 #[.pointer (some ⟨g, 0, none⟩)] (0, 0) _ rfl (by have := block_setCell (i := 0) HK2.out (.pointer (some ⟨g, 0, none⟩)); simpa using this) Try.underlying36 rfl size36) rfl ?_
  exact ⟨g, rfl, ip_store HK2.out HIP.out, HB2.out.setCell (Nat.le_refl _) _⟩
end Go.Proofs.Qxb6609148a
