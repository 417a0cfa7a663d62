/-
  THE PROOF OF 'Rows.FnEncodeEditCollectSplitsAtAnyCutCardSaid': the row out of the walk, then the tied card by the builder's one call.
-/
import Derived.Test.Qxb6609120aDoorLaw
import Derived.ProofKit
import Derived.OpenShut
import Derived.LaidMore
import Derived.Stop.Joined
import Derived.ChangeOld
import Derived.SizedLaws
import Derived.Lib.LaidTab
import Derived.Deep.Matrix
import Derived.Test.Qxb6609120aDoorTie
import Derived.Test.Qxb6609120aDoorCards
import Derived.SevenTiedAt
namespace Go.Proofs.Qxb6609120aDoor
open Go.ChangeShapes Go.WideShapes Go.ChangeAt Go.RowKit Go.Deep

theorem own : ownKnob Tryd.prog.godebug = none := by kernel_rfl
theorem laidOut : laidOutB Tryd.prog = true := by kernel_rfl
theorem cells29 : Tryd.prog.cellsOf 29 = 1 := by kernel_rfl
theorem bytes29 : Tryd.prog.bytesOf 29 = 8 := by kernel_rfl
theorem some_addr {w : World} {a : Addr} {v : Value} (h : w.cell? a = some v) : a.spot = none := by
  unfold World.cell? at h
  split at h
  · split at h
    · simp at h
    · rename_i hh; simpa using hh
  · simp at h
theorem addr_lit {a : Addr} (h : a.spot = none) : a = ⟨a.block, a.off, none⟩ := by
  cases a; simp at h; rw [h]
theorem addr_add_zero (a : Addr) : a.add 0 = a := by
  cases a with
  | mk b o s => cases s <;> simp [Addr.add]
/-- cells at 'a.add k' as the walk wants them -/
theorem rd_of_cells {w : World} {a : Addr} {len cap : Nat} {zs : List Int} (hl : len ≤ cap) (hcap : cap ≤ 140737488355328) (hz : zs.length = cap)
    (hc : ∀ i, i < cap → w.cell? (a.add i) = some (.int .u64 (zs.getD i 0))) : Rd .u64 w.heap.size w (.slice (some a) len cap) (zs.take len) := by
  have e : (zs.take len).length = len := by simp; omega
  refine ⟨some a, cap, by rw [e], by omega, by omega, (by simp), fun k hk => ?_⟩
  rw [e] at hk
  have h1 := hc k (by omega)
  have h0 := hc 0 (by omega)
  rw [addr_add_zero] at h0
  have h2 := addr_lit (some_addr h0)
  refine ⟨a.block, a.off, by rw [← h2], ?_, ?_⟩
  · have := World.block_lt_of_cell? w _ h1
    rw [h2, Addr.add_lit] at this
    exact this
  · rw [h2, Addr.add_lit] at h1
    rw [h1]
    congr 2
    rw [List.getD_eq_getElem?_getD, List.getD_eq_getElem?_getD, List.getElem?_take_of_lt hk]
theorem rd_nil (w : World) : Rd .u64 w.heap.size w (.slice none 0 0) [] := ⟨none, 0, rfl, by simp, by simp, fun _ => rfl, fun k hk => by simp at hk⟩
theorem u64s_of_wf {zs : List Int} {len : Nat} (h : ∀ n ∈ zs, (Lit.int .u64 n).wf = true) : U64s (zs.take len) := by
  intro k hk
  have hm : (zs.take len).getD k 0 ∈ zs := by
    rw [List.getD_eq_getElem?_getD, List.getElem?_eq_getElem hk]
    exact List.mem_of_mem_take (List.getElem_mem hk)
  have := h _ hm
  have := bounds_u64 this
  omega
/-- A SLICE OF NUMBERS THAT CAME IN -/
theorem open_u64s {H : Type} {enc : TypeId × Value → H} {W : World} {held : Bool} {fuel : Nat} {a : Option Addr} {len cap : Nat} {d : DataW H} {ps : List MemPlace}
    (hf : DataW.trod enc Tryd.prog W 0 (fun _ => true) held fuel 22 (Value.cells (.slice a len cap)).toList = some (d, ps)) (hw : ∀ n ∈ d.weights Tryd.prog 22, n ≤ reachBytes) :
    ∃ xs, Rd .u64 W.heap.size W (.slice a len cap) xs ∧ U64s xs := by
  rcases open_ints Tryd.underlying22 Tryd.underlying29 cells29 hf with ⟨hcs, _⟩ | ⟨x, l, c, zs, hcs, _, hl, hm, hz, hx, hcell, hwz⟩
  · simp [Value.cells] at hcs
    obtain ⟨rfl, rfl, rfl⟩ := hcs
    exact ⟨[], rd_nil W, fun k hk => by simp at hk⟩
  · simp [Value.cells] at hcs
    obtain ⟨rfl, rfl, rfl⟩ := hcs
    simp only [if_true] at hz
    simp only [Prod.mk.injEq] at hx
    obtain ⟨rfl, -⟩ := hx
    have h1 := hw (((zs.take len).length + (zs.drop len).length) * 8) (by
      simp [DataW.weights, Tryd.underlying22, bytes29, lits])
    have h2 : zs.length ≤ 140737488355328 := by
      have : (zs.take len).length + (zs.drop len).length = zs.length := by simp; omega
      simp only [reachBytes] at h1
      omega
    exact ⟨_, rd_of_cells hl (by omega) hz (fun i hi => hcell i (by omega)), u64s_of_wf hwz⟩

/-- the door's own heap meets the condition -/
theorem doorC_met (os : Os) (args : Array Value) : laidMetH Tryd.prog Rows.fnEncodeEditCollectSplitsAtAnyCutRow.laid ((World.doorLaid Tryd.prog 400 os).forCall (fun _ _ => 0) ⟨#[], args, []⟩).memory :=
  laidMetH_of_parts3 (fuel := 8) (laidMet_of_run' 8 (by kernel_rfl) (by kernel_rfl)) (by kernel_rfl) (by kernel_rfl)

set_option maxRecDepth 100000 in
theorem liftedC (os : Os) (started : os.Started) (H : Type) (enc : TypeId × Value → H) :
    ReturnsInHanded {} Tryd.checked os 3 .any (fun w args => (Rows.fnEncodeEditCollectSplitsAtAnyCutSpec.pre enc Tryd.prog Tryd.f3 [] false w args ∧ laidMetH Tryd.prog Rows.fnEncodeEditCollectSplitsAtAnyCutRow.laid w) ∧ sizedMet enc Tryd.prog Tryd.f3 (OpenSpec.ofChange Rows.fnEncodeEditCollectSplitsAtAnyCutSpec) false w args)
      (Rows.fnEncodeEditCollectSplitsAtAnyCutSpec.post enc Tryd.prog Tryd.f3 false true false false) := by
  refine returnsInHanded_of_change_and (C := Tryd.checked) (X := fun w _ => laidMetH Tryd.prog Rows.fnEncodeEditCollectSplitsAtAnyCutRow.laid w) (fun _ _ _ hh h => h.of_heap hh) own started (by kernel_rfl) Tryd.func3
    (ChangeSpec.witness_shaped (enc := enc) (C := Tryd.checked) (os := os) (X := fun w _ => laidMetH Tryd.prog Rows.fnEncodeEditCollectSplitsAtAnyCutRow.laid w) false (World.doorLaid Tryd.prog 400 os) #[.slice none 0 0, .slice none 0 0] 8 rfl (World.shaped_of_RefB (by kernel_rfl) (by kernel_rfl)) (by kernel_rfl) (by kernel_rfl) (by kernel_rfl) (doorC_met os _)) ?_
  intro W base args ds gs before hval0 hW _ hsz0 _ _
  have hval : ∀ (j : Nat) t v, Tryd.f3.params[j]? = some t → args[j]? = some v → Value.okWide Tryd.prog W .any base t v := hval0
  have hsz : (DataW.weightsEach Tryd.prog (Tryd.f3.params.toList ++ Rows.fnEncodeEditCollectSplitsAtAnyCutSpec.plain.varTypes Tryd.prog) (ds ++ gs)).all (· ≤ reachBytes) = true := hsz0
  have hW' := hW
  obtain ⟨p, q, hA0, hV, rfl, hfz, hnd⟩ := hW
  have hA : DataW.TrodAll enc Tryd.prog W 0 (fun _ => true) true Tryd.f3.params.toList args.toList ds p := hA0
  rw [Tryd.params3] at hA hval hsz
  obtain ⟨v0, vs0, d0, ds0, p0, q0, hargs, rfl, rfl, h0, r0⟩ := trodAll_cons hA
  obtain ⟨v1, vs1, d1, ds1, p1, q1, rfl, rfl, rfl, h1, r1⟩ := trodAll_cons r0
  obtain ⟨rfl, rfl, rfl⟩ := trodAll_nil r1
  obtain rfl : args = #[v0, v1] := by cases args; simp_all
  obtain ⟨rfl, rfl⟩ := trodVars_none hV
  have hwt : ∀ (j t : Nat) (d : DataW H), ([22, 22] ++ Rows.fnEncodeEditCollectSplitsAtAnyCutSpec.plain.varTypes Tryd.prog)[j]? = some t → ([d0, d1] ++ [])[j]? = some d → ∀ n ∈ d.weights Tryd.prog t, n ≤ reachBytes :=
    fun j t d ht hd n hn => by
      have := List.all_eq_true.1 hsz n (DataW.weights_mem_each (j := j) ht hd n hn)
      simpa using this
  obtain ⟨a0, len0, cap0, rfl⟩ := okWide_slice Tryd.underlying22 (hval 0 22 v0 rfl rfl)
  have k0 := h0
  have lt0 : ∀ x ∈ p0, x.block < W.heap.size := by obtain ⟨m, hm⟩ := k0; exact DataW.trod_lt m _ _ _ hm
  obtain ⟨xs0, w0, b0⟩ : ∃ xs, Rd .u64 W.heap.size W (.slice a0 len0 cap0) xs ∧ U64s xs := by
    obtain ⟨fuel, hf⟩ := h0
    exact open_u64s hf (hwt 0 22 d0 rfl rfl)
  obtain ⟨a1, len1, cap1, rfl⟩ := okWide_slice Tryd.underlying22 (hval 1 22 v1 rfl rfl)
  have k1 := h1
  have lt1 : ∀ x ∈ p1, x.block < W.heap.size := by obtain ⟨m, hm⟩ := k1; exact DataW.trod_lt m _ _ _ hm
  obtain ⟨xs1, w1, b1⟩ : ∃ xs, Rd .u64 W.heap.size W (.slice a1 len1 cap1) xs ∧ U64s xs := by
    obtain ⟨fuel, hf⟩ := h1
    exact open_u64s hf (hwt 1 22 d1 rfl rfl)
  clear hA0 hval0
  refine (walk _ _ xs0 xs1 W w0 w1 b0 b1).mono fun e W' ⟨he, bel⟩ => ?_
  subst he
  exact ⟨_, rfl, _, _, _, [], _, [], hW', trodAll_mk1 (shut_bool Tryd.underlying4 _), (trodAll_cons_mk (Below.trod laidOut (by kernel_rfl) (of_decide_eq_true (by kernel_rfl)) k0 bel lt0) (trodAll_cons_mk (Below.trod laidOut (by kernel_rfl) (of_decide_eq_true (by kernel_rfl)) k1 bel lt1) trodAll_mk0)), rfl, bel.frame _, fun h => by cases h⟩

theorem rowC_holds : Rows.FnEncodeEditCollectSplitsAtAnyCutSaid :=
  OpenClaim.holds_of_wide 3 Tryd.f3 rfl rfl rfl rfl rfl rfl rfl ⟨rfl, rfl, rfl, rfl, rfl⟩ rfl rfl rfl rfl rfl (by kernel_rfl) Tryd.func3 (by kernel_rfl)
    (of_decide_eq_true (by kernel_rfl)) (by unfold Func.isWrapper; first | (rw [if_pos (by decide +kernel)]; kernel_rfl) | (rw [if_neg (by decide +kernel)]; exact ⟨rfl, rfl⟩))
    (fun os started H enc _ => liftedC os started H enc)

/-- THE CARD -/
theorem cardC : Rows.FnEncodeEditCollectSplitsAtAnyCutCardSaid :=
  Claim7.holds_tied_plain_at .later [] [.data] true Rows.fnEncodeEditCollectSplitsAtAnyCutCard.stood.harness false
    rowC_holds (fun _ h => by cases h) (by kernel_rfl) (fun _ h => by cases h) fnEncodeEditCollectSplitsAtAnyCut_row_tie rfl ⟨rfl, rfl⟩ (by kernel_rfl) rfl
    (fun f fn hf hfn => by
      obtain rfl : f = 3 := Option.some.inj ((show Tryd.prog.funcNamed Rows.fnEncodeEditCollectSplitsAtAnyCutRow.func = some 3 by kernel_rfl).symm.trans hf) |>.symm
      obtain rfl : fn = Tryd.f3 := (Option.some.inj (Tryd.func3.symm.trans hfn)).symm
      exact ⟨by kernel_rfl, fun j t ht => by
        rw [Tryd.params3] at ht
        obtain rfl : t = 22 := by
          match j, ht with
          | 0, ht => simp at ht; exact ht.symm
          | 1, ht => simp at ht; exact ht.symm
          | j + 2, ht => simp at ht
        exact (show Tryd.prog.wantsStandIn 22 = false by kernel_rfl)⟩)
    (by kernel_rfl)
end Go.Proofs.Qxb6609120aDoor
