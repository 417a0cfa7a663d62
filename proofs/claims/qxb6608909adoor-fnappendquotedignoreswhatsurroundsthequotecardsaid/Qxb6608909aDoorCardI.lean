/-
  THE PROOF OF 'Rows.FnAppendQuotedIgnoresWhatSurroundsTheQuoteCardSaid': the row out of the walk, then the tied card by the builder's one call.
-/
import Derived.Test.Qxb6608909aDoorOpenB
import Derived.Test.Qxb6608909aDoorLawI
import Derived.Test.Qxb6608909aDoorTie
import Derived.Test.Qxb6608909aDoorCards
import Derived.SevenTiedAt
namespace Go.Proofs.Qxb6608909aDoor
open Go.ChangeShapes Go.WideShapes Go.ChangeAt Go.RowKit Go.Deep

/-- the door's own heap meets the condition -/
theorem doorI_met (os : Os) (args : Array Value) : laidMetH Tryd.prog Rows.fnAppendQuotedIgnoresWhatSurroundsTheQuoteRow.laid ((World.doorLaid Tryd.prog 400 os).forCall (fun _ _ => 0) ⟨#[], args, []⟩).memory :=
  laidMetH_of_parts3 (fuel := 8) (laidMet_of_run' 8 (by kernel_rfl) (by kernel_rfl)) (by kernel_rfl) (by kernel_rfl)

set_option maxRecDepth 100000 in
theorem liftedI (os : Os) (started : os.Started) (H : Type) (enc : TypeId × Value → H) :
    ReturnsInHanded {} Tryd.checked os 5 .any (fun w args => (Rows.fnAppendQuotedIgnoresWhatSurroundsTheQuoteSpec.pre enc Tryd.prog Tryd.f5 [] false w args ∧ laidMetH Tryd.prog Rows.fnAppendQuotedIgnoresWhatSurroundsTheQuoteRow.laid w) ∧ sizedMet enc Tryd.prog Tryd.f5 (OpenSpec.ofChange Rows.fnAppendQuotedIgnoresWhatSurroundsTheQuoteSpec) false w args)
      (Rows.fnAppendQuotedIgnoresWhatSurroundsTheQuoteSpec.post enc Tryd.prog Tryd.f5 false true false false) := by
  refine returnsInHanded_of_change_and (C := Tryd.checked) (X := fun w _ => laidMetH Tryd.prog Rows.fnAppendQuotedIgnoresWhatSurroundsTheQuoteRow.laid w) (fun _ _ _ hh h => h.of_heap hh) own started (by kernel_rfl) Tryd.func5
    (ChangeSpec.witness_shaped (enc := enc) (C := Tryd.checked) (os := os) (X := fun w _ => laidMetH Tryd.prog Rows.fnAppendQuotedIgnoresWhatSurroundsTheQuoteRow.laid w) false (World.doorLaid Tryd.prog 400 os) #[.slice none 0 0, .slice none 0 0, .slice none 0 0, .slice none 0 0, .int .i64 0] 8 rfl (World.shaped_of_RefB (by kernel_rfl) (by kernel_rfl)) (by kernel_rfl) (by kernel_rfl) (by kernel_rfl) (doorI_met os _)) ?_
  intro W base args ds gs before hval0 hW _ hsz0 _ _
  have hval : ∀ (j : Nat) t v, Tryd.f5.params[j]? = some t → args[j]? = some v → Value.okWide Tryd.prog W .any base t v := hval0
  have hsz : (DataW.weightsEach Tryd.prog (Tryd.f5.params.toList ++ Rows.fnAppendQuotedIgnoresWhatSurroundsTheQuoteSpec.plain.varTypes Tryd.prog) (ds ++ gs)).all (· ≤ reachBytes) = true := hsz0
  have hW' := hW
  obtain ⟨p, q, hA0, hV, rfl, hfz, hnd⟩ := hW
  have hA : DataW.TrodAll enc Tryd.prog W 0 (fun _ => true) true Tryd.f5.params.toList args.toList ds p := hA0
  rw [Tryd.params5] at hA hval hsz
  obtain ⟨v0, vs0, d0, ds0, p0, q0, hargs, rfl, rfl, h0, r0⟩ := trodAll_cons hA
  obtain ⟨v1, vs1, d1, ds1, p1, q1, rfl, rfl, rfl, h1, r1⟩ := trodAll_cons r0
  obtain ⟨v2, vs2, d2, ds2, p2, q2, rfl, rfl, rfl, h2, r2⟩ := trodAll_cons r1
  obtain ⟨v3, vs3, d3, ds3, p3, q3, rfl, rfl, rfl, h3, r3⟩ := trodAll_cons r2
  obtain ⟨v4, vs4, d4, ds4, p4, q4, rfl, rfl, rfl, h4, r4⟩ := trodAll_cons r3
  obtain ⟨rfl, rfl, rfl⟩ := trodAll_nil r4
  obtain rfl : args = #[v0, v1, v2, v3, v4] := by cases args; simp_all
  obtain ⟨rfl, rfl⟩ := trodVars_none hV
  have hwt : ∀ (j t : Nat) (d : DataW H), ([22, 22, 22, 22, 3] ++ Rows.fnAppendQuotedIgnoresWhatSurroundsTheQuoteSpec.plain.varTypes Tryd.prog)[j]? = some t → ([d0, d1, d2, d3, d4] ++ [])[j]? = some d → ∀ n ∈ d.weights Tryd.prog t, n ≤ reachBytes :=
    fun j t d ht hd n hn => by
      have := List.all_eq_true.1 hsz n (DataW.weights_mem_each (j := j) ht hd n hn)
      simpa using this
  obtain ⟨a0, len0, cap0, rfl⟩ := okWide_slice Tryd.underlying22 (hval 0 22 v0 rfl rfl)
  have k0 := h0
  have lt0 : ∀ x ∈ p0, x.block < W.heap.size := by obtain ⟨m, hm⟩ := k0; exact DataW.trod_lt m _ _ _ hm
  obtain ⟨xs0, w0, b0⟩ : ∃ xs, Rd W.heap.size W (.slice a0 len0 cap0) xs ∧ Byt xs := by
    obtain ⟨fuel, hf⟩ := h0
    exact open_bytesB hf (hwt 0 22 d0 rfl rfl)
  obtain ⟨a1, len1, cap1, rfl⟩ := okWide_slice Tryd.underlying22 (hval 1 22 v1 rfl rfl)
  have k1 := h1
  have lt1 : ∀ x ∈ p1, x.block < W.heap.size := by obtain ⟨m, hm⟩ := k1; exact DataW.trod_lt m _ _ _ hm
  obtain ⟨xs1, w1, b1⟩ : ∃ xs, Rd W.heap.size W (.slice a1 len1 cap1) xs ∧ Byt xs := by
    obtain ⟨fuel, hf⟩ := h1
    exact open_bytesB hf (hwt 1 22 d1 rfl rfl)
  obtain ⟨a2, len2, cap2, rfl⟩ := okWide_slice Tryd.underlying22 (hval 2 22 v2 rfl rfl)
  have k2 := h2
  have lt2 : ∀ x ∈ p2, x.block < W.heap.size := by obtain ⟨m, hm⟩ := k2; exact DataW.trod_lt m _ _ _ hm
  obtain ⟨xs2, w2, b2⟩ : ∃ xs, Rd W.heap.size W (.slice a2 len2 cap2) xs ∧ Byt xs := by
    obtain ⟨fuel, hf⟩ := h2
    exact open_bytesB hf (hwt 2 22 d2 rfl rfl)
  obtain ⟨a3, len3, cap3, rfl⟩ := okWide_slice Tryd.underlying22 (hval 3 22 v3 rfl rfl)
  have k3 := h3
  have lt3 : ∀ x ∈ p3, x.block < W.heap.size := by obtain ⟨m, hm⟩ := k3; exact DataW.trod_lt m _ _ _ hm
  obtain ⟨xs3, w3, b3⟩ : ∃ xs, Rd W.heap.size W (.slice a3 len3 cap3) xs ∧ Byt xs := by
    obtain ⟨fuel, hf⟩ := h3
    exact open_bytesB hf (hwt 3 22 d3 rfl rfl)
  obtain ⟨i4, rfl, rfl, rfl, w4⟩ := open_int Tryd.underlying3 (hval 4 3 v4 rfl rfl) h4
  clear hA0 hval0
  refine (walkI _ _ _ _ xs0 xs1 xs2 xs3 i4 W w0 w1 w2 w3 b1 b2 b3 (bounds_i64 w4)).mono fun e W' ⟨he, bel⟩ => ?_
  subst he
  exact ⟨_, rfl, _, _, _, [], _, [], hW', trodAll_mk1 (shut_bool Tryd.underlying4 _), (trodAll_cons_mk (Below.trod laidOut (by kernel_rfl) (of_decide_eq_true (by kernel_rfl)) k0 bel lt0) (trodAll_cons_mk (Below.trod laidOut (by kernel_rfl) (of_decide_eq_true (by kernel_rfl)) k1 bel lt1) (trodAll_cons_mk (Below.trod laidOut (by kernel_rfl) (of_decide_eq_true (by kernel_rfl)) k2 bel lt2) (trodAll_cons_mk (Below.trod laidOut (by kernel_rfl) (of_decide_eq_true (by kernel_rfl)) k3 bel lt3) (trodAll_cons_mk (shut_int Tryd.underlying3 w4) trodAll_mk0))))), rfl, bel.frame _, fun h => by cases h⟩

theorem rowI_holds : Rows.FnAppendQuotedIgnoresWhatSurroundsTheQuoteSaid :=
  OpenClaim.holds_of_wide 5 Tryd.f5 rfl rfl rfl rfl rfl rfl rfl ⟨rfl, rfl, rfl, rfl, rfl⟩ rfl rfl rfl rfl rfl (by kernel_rfl) Tryd.func5 (by kernel_rfl)
    (of_decide_eq_true (by kernel_rfl)) (by unfold Func.isWrapper; first | (rw [if_pos (by decide +kernel)]; kernel_rfl) | (rw [if_neg (by decide +kernel)]; exact ⟨rfl, rfl⟩))
    (fun os started H enc _ => liftedI os started H enc)

/-- THE CARD -/
theorem cardI : Rows.FnAppendQuotedIgnoresWhatSurroundsTheQuoteCardSaid :=
  Claim7.holds_tied_plain_at .later [] [.data, .data, .data, .sentinel, .sentinel] true Rows.fnAppendQuotedIgnoresWhatSurroundsTheQuoteCard.stood.harness true
    rowI_holds (fun _ h => by cases h) (by kernel_rfl) (fun _ h => by cases h) fnAppendQuotedIgnoresWhatSurroundsTheQuote_row_tie rfl ⟨rfl, rfl⟩ (by kernel_rfl) rfl
    (fun f fn hf hfn => by
      obtain rfl : f = 5 := Option.some.inj ((show Tryd.prog.funcNamed Rows.fnAppendQuotedIgnoresWhatSurroundsTheQuoteRow.func = some 5 by kernel_rfl).symm.trans hf) |>.symm
      obtain rfl : fn = Tryd.f5 := (Option.some.inj (Tryd.func5.symm.trans hfn)).symm
      exact ⟨by kernel_rfl, fun j t ht => by
        rw [Tryd.params5] at ht
        have h3 : t = 22 ∨ t = 3 := by
          match j, ht with
          | 0, ht => simp at ht; exact .inl ht.symm
          | 1, ht => simp at ht; exact .inl ht.symm
          | 2, ht => simp at ht; exact .inl ht.symm
          | 3, ht => simp at ht; exact .inl ht.symm
          | 4, ht => simp at ht; exact .inr ht.symm
          | j + 5, ht => simp at ht
        rcases h3 with rfl | rfl
        · exact (show Tryd.prog.wantsStandIn 22 = false by kernel_rfl)
        · exact (show Tryd.prog.wantsStandIn 3 = false by kernel_rfl)⟩)
    (by kernel_rfl)
end Go.Proofs.Qxb6608909aDoor
