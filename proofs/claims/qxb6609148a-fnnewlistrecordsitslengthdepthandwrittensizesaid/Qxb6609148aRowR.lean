/-
  THE PROOF OF 'Rows.FnNewListRecordsItsLengthDepthAndWrittenSizeSaid': the row out of the walk.
-/
import Derived.Test.Qxb6609148aRowE
import Derived.Test.Qxb6609148aLawR
import Derived.Test.Qxb6609148aMagC
namespace Go.Proofs.Qxb6609148a
open Go.ChangeShapes Go.WideShapes Go.ChangeAt Go.RowKit Go.Deep

set_option maxRecDepth 100000 in
theorem liftedR (os : Os) (started : os.Started) (H : Type) (enc : TypeId × Value → H) :
    ReturnsInHanded {} Try.checked os 4 .any (Rows.fnNewListRecordsItsLengthDepthAndWrittenSizeSpec.pre6 enc Try.prog Try.f4 Rows.fnNewListRecordsItsLengthDepthAndWrittenSizeRow.domain false) (Rows.fnNewListRecordsItsLengthDepthAndWrittenSizeSpec.post enc Try.prog Try.f4 false true false false) := by
  refine returnsInHanded_of_change_sized (C := Try.checked) own started (by kernel_rfl) Try.func4
    (ChangeSpec.witness6 (enc := enc) (C := Try.checked) false ⟨#[], #[.slice none 0 0, .int .i64 0], []⟩ 8 (by kernel_rfl) (by kernel_rfl) (by kernel_rfl) (by kernel_rfl)) ?_
  intro W base args ds gs before hval0 hW _ hsz0 _
  have hval : ∀ (j : Nat) t v, Try.f4.params[j]? = some t → args[j]? = some v → Value.okWide Try.prog W .any base t v := hval0
  have hsz : (DataW.weightsEach Try.prog (Try.f4.params.toList ++ Rows.fnNewListRecordsItsLengthDepthAndWrittenSizeSpec.plain.varTypes Try.prog) (ds ++ gs)).all (· ≤ reachBytes) = true := hsz0
  have hW' := hW
  obtain ⟨p, q, hA0, hV, rfl, hfz, hnd⟩ := hW
  have hA : DataW.TrodAll enc Try.prog W 0 (fun _ => true) true Try.f4.params.toList args.toList ds p := hA0
  rw [Try.params4] at hA hval hsz
  obtain ⟨v0, vs0, d0, ds0, p0, q0, hargs, rfl, rfl, h0, r0⟩ := trodAll_cons hA
  obtain ⟨v1, vs1, d1, ds1, p1, q1, rfl, rfl, rfl, h1, r1⟩ := trodAll_cons r0
  obtain ⟨rfl, rfl, rfl⟩ := trodAll_nil r1
  obtain rfl : args = #[v0, v1] := by cases args; simp_all
  obtain ⟨rfl, rfl⟩ := trodVars_none hV
  have hwt : ∀ (j t : Nat) (d : DataW H), ([22, 2] ++ Rows.fnNewListRecordsItsLengthDepthAndWrittenSizeSpec.plain.varTypes Try.prog)[j]? = some t → ([d0, d1] ++ [])[j]? = some d → ∀ n ∈ d.weights Try.prog t, n ≤ reachBytes :=
    fun j t d ht hd n hn => by
      have := List.all_eq_true.1 hsz n (DataW.weights_mem_each (j := j) ht hd n hn)
      simpa using this
  obtain ⟨a0, len0, cap0, rfl⟩ := okWide_slice Try.underlying22 (hval 0 22 v0 rfl rfl)
  have k0 := h0
  have lt0 : ∀ x ∈ p0, x.block < W.heap.size := by obtain ⟨m, hm⟩ := k0; exact DataW.trod_lt m _ _ _ hm
  obtain ⟨ss0, w0, b0⟩ : ∃ ss, Rs W.heap.size W (.slice a0 len0 cap0) ss ∧ Sz ss := by
    obtain ⟨fuel, hf⟩ := h0
    exact open_ss hf (hwt 0 22 d0 rfl rfl)
  obtain ⟨i1, rfl, rfl, rfl, w1⟩ := open_int Try.underlying2 (hval 1 2 v1 rfl rfl) h1
  clear hA0 hval0
  refine (walkR magC _ ss0 i1 W w0 b0 (bounds_i64 w1)).mono fun e W' ⟨he, bel⟩ => ?_
  subst he
  exact ⟨_, rfl, _, _, _, [], _, [], hW', trodAll_mk1 (shut_bool Try.underlying4 _), (trodAll_cons_mk (Below.trod laidOut (by kernel_rfl) (of_decide_eq_true (by kernel_rfl)) k0 bel lt0) (trodAll_cons_mk (shut_int Try.underlying2 w1) trodAll_mk0)), rfl, bel.frame _, fun h => by cases h⟩

/-- THE STATEMENT -/
theorem rowR_holds : Rows.FnNewListRecordsItsLengthDepthAndWrittenSizeSaid :=
  OpenClaim.holds_of_wide 4 Try.f4 rfl rfl rfl rfl rfl rfl rfl ⟨rfl, rfl, rfl, rfl, rfl⟩ rfl rfl rfl rfl rfl (by kernel_rfl) Try.func4 (by kernel_rfl)
    (of_decide_eq_true (by kernel_rfl)) (by unfold Func.isWrapper; first | (rw [if_pos (by decide +kernel)]; kernel_rfl) | (rw [if_neg (by decide +kernel)]; exact ⟨rfl, rfl⟩))
    (fun os started H enc _ => liftedR os started H enc)
end Go.Proofs.Qxb6609148a
