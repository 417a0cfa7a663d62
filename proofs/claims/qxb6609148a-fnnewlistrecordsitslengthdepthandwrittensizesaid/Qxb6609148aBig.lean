import Derived.Test.Qxb6609148aInt
namespace Go.Proofs.Qxb6609148a
open Go.RowKit Go.Joins

/-- p points at a big integer whose magnitude is a (at most one word) -/
def Ip (B : Nat) (w : World) (p : Value) (a : Nat) : Prop :=
  ∃ g, p = .pointer (some ⟨g, 0, none⟩) ∧ g < B ∧ ((a = 0 ∧ w.cell? ⟨g, 1, none⟩ = some (.slice none 0 0)) ∨ (a ≠ 0 ∧ ∃ h, h < B ∧ w.cell? ⟨g, 1, none⟩ = some (.slice (some ⟨h, 0, none⟩) 1 1) ∧ w.cell? ⟨h, 0, none⟩ = some (.int .u64 (a : Int))))

theorem Ip.on {w w' : World} {p : Value} {a : Nat} (h : Ip w.heap.size w p a) (hb : Below w.heap.size w w') : Ip w'.heap.size w' p a := by
  obtain ⟨g, h1, h2, h3⟩ := h
  have hs := hb.size
  refine ⟨g, h1, by omega, ?_⟩
  rcases h3 with ⟨e, h3⟩ | ⟨e, q, h4, h5, h6⟩
  · exact .inl ⟨e, (hb.cell (p := ⟨g, 1, none⟩) h2).trans h3⟩
  · exact .inr ⟨e, q, by omega, (hb.cell (p := ⟨g, 1, none⟩) h2).trans h5, (hb.cell (p := ⟨q, 0, none⟩) h4).trans h6⟩

theorem ip_new (w : World) (a : Nat) (u : Int) (hu : u = a) (ha : a ≠ 0) (b : Bool) (w2 : World) (hw2 : w2 = (w.alloc (.cells #[.int .u64 u] 70)).alloc (.cells #[.bool b, .slice (some ⟨w.heap.size, 0, none⟩) 1 1] 69)) :
    Ip w2.heap.size w2 (.pointer (some ⟨w.heap.size + 1, 0, none⟩)) a ∧ Below w.heap.size w w2 := by
  subst hu
  obtain ⟨w1, hw1⟩ : ∃ w1, w1 = w.alloc (.cells #[.int .u64 (a : Int)] 70) := ⟨_, rfl⟩
  rw [← hw1] at hw2
  have hs : w1.heap.size = w.heap.size + 1 := by rw [hw1]; simp
  have hs2 : w2.heap.size = w.heap.size + 2 := by rw [hw2]; simp [hs]
  have hb1 : Below w.heap.size w w1 := by rw [hw1]; exact (Below.refl _ _).alloc (Nat.le_refl _) _
  have hb2 : Below w1.heap.size w1 w2 := by rw [hw2]; exact (Below.refl _ _).alloc (Nat.le_refl _) _
  have h1 : w1.heap[w.heap.size]? = some (.cells #[.int .u64 (a : Int)] 70) := by rw [hw1]; exact heap_alloc_new w _
  have h2 : w2.heap[w1.heap.size]? = some (.cells #[.bool b, .slice (some ⟨w.heap.size, 0, none⟩) 1 1] 69) := by rw [hw2]; exact heap_alloc_new w1 _
  have h3 := (hb2.block w.heap.size (by omega)).trans h1
  rw [hs] at h2
  refine ⟨⟨w.heap.size + 1, rfl, by omega, .inr ⟨ha, w.heap.size, by omega, ?_, ?_⟩⟩, hb1.trans (hb2.mono (by omega))⟩
  · rw [cell_of_block h2]; rfl
  · rw [cell_of_block h3]; rfl

theorem newInt_any (x : Int) (w : World) (h : -9223372036854775808 ≤ x ∧ x ≤ 9223372036854775807) :
    Calls Try.prog 28 #[.int .i64 x] w fun e w' => ∃ p, e = .returned p ∧ Ip w'.heap.size w' p x.natAbs ∧ Below w.heap.size w w' := by
  by_cases hz : x = 0
  · subst hz
    go_enter Try.func28, Try.ntmps28
    go_wp2
    go_ret
    exact ⟨_, rfl, ⟨w.heap.size, rfl, by simp, .inl ⟨rfl, by simp⟩⟩, (Below.refl _ _).alloc (Nat.le_refl _) _⟩
  · have hzb : (x == 0) = false := by rw [beq_eq_false_iff_ne]; exact hz
    by_cases h0 : x < 0
    · have hw := neg_wrap x h.1 h0
      go_enter Try.func28, Try.ntmps28
      go_wp2
      go_ret
      have := ip_new w x.natAbs x.natAbs rfl (by omega) true _ rfl
      exact ⟨_, rfl, this.1, this.2⟩
    · go_enter Try.func28, Try.ntmps28
      go_wp2
      go_ret
      have := ip_new w x.natAbs x (by omega) (by omega) false _ rfl
      exact ⟨_, rfl, this.1, this.2⟩
end Go.Proofs.Qxb6609148a
