/-
  THE PROOF OF 'Rows.FnNewListExtentAddsUpAtAnyCutSaid': the row out of the walk.
-/
import Derived.Test.Qxb6609148aLawE
import Derived.ProofKit
import Derived.OpenShut
import Derived.ShutString
import Derived.ChangeOld
import Derived.SizedLaws
import Derived.Deep.Strs
namespace Go.Proofs.Qxb6609148a
open Go.ChangeShapes Go.WideShapes Go.ChangeAt Go.RowKit Go.Deep

theorem own : ownKnob Try.prog.godebug = none := by kernel_rfl
theorem laidOut : laidOutB Try.prog = true := by kernel_rfl
theorem cells9 : Try.prog.cellsOf 9 = 1 := by kernel_rfl
theorem bytes9 : Try.prog.bytesOf 9 = 16 := by kernel_rfl
theorem weightsAll_mem {H : Type} {P : Program} {e : TypeId} {d : DataW H} {n : Nat} : ∀ {l : List (DataW H)}, d ∈ l → n ∈ d.weights P e → n ∈ DataW.weightsAll P e l
  | [], h, _ => by simp at h
  | x :: l, h, hn => by
    simp only [DataW.weightsAll, List.mem_append]
    rcases List.mem_cons.1 h with rfl | h
    · exact .inl hn
    · exact .inr (weightsAll_mem h hn)
theorem some_addr {w : World} {a : Addr} {v : Value} (h : w.cell? a = some v) : a.spot = none := by
  unfold World.cell? at h
  split at h
  · split at h
    · simp at h
    · rename_i hh; simpa using hh
  · simp at h
theorem addr_lit {a : Addr} (h : a.spot = none) : a = ⟨a.block, a.off, none⟩ := by
  cases a; simp at h; rw [h]
theorem addr_add_zero (a : Addr) : a.add 0 = a := by
  cases a with
  | mk b o s => cases s <;> simp [Addr.add]

/-- A SLICE OF STRINGS THAT CAME IN -/
theorem open_ss {H : Type} {enc : TypeId × Value → H} {W : World} {held : Bool} {fuel : Nat} {a : Option Addr} {len cap : Nat} {d : DataW H} {ps : List MemPlace}
    (hf : DataW.trod enc Try.prog W 0 (fun _ => true) held fuel 22 (Value.cells (.slice a len cap)).toList = some (d, ps)) (hw : ∀ n ∈ d.weights Try.prog 22, n ≤ reachBytes) :
    ∃ ss, Rs W.heap.size W (.slice a len cap) ss ∧ Sz ss := by
  rcases open_strs Try.underlying22 Try.underlying9 cells9 hf with ⟨hcs, _⟩ | ⟨x, l, c, m, Sx, hcs, _, hl, hm, hmm, hx, hcell⟩
  · simp [Value.cells] at hcs
    obtain ⟨rfl, rfl, rfl⟩ := hcs
    exact ⟨[], ⟨none, 0, rfl, by simp, by simp, fun _ => rfl, fun k hk => by simp at hk⟩, fun k hk => by simp at hk⟩
  · simp [Value.cells] at hcs
    obtain ⟨rfl, rfl, rfl⟩ := hcs
    simp only [if_true] at hmm
    subst hmm
    simp only [Prod.mk.injEq] at hx
    obtain ⟨rfl, -⟩ := hx
    have hlen : len * 16 ≤ 140737488355328 := by
      have := hw ((len + (m - len)) * 16) (by simp [DataW.weights, Try.underlying22, bytes9])
      simp only [reachBytes] at this
      omega
    have eg : ∀ k, k < len → ((List.range len).map Sx).getD k .empty = Sx k := by
      intro k hk
      rw [List.getD_eq_getElem?_getD, List.getElem?_map, List.getElem?_range hk]; rfl
    refine ⟨(List.range len).map Sx, ⟨some x, m, by simp, by simpa using hl, by simp; unfold maxLen at hm; omega, (by simp), fun k hk => ?_⟩, fun k hk => ?_⟩
    · have hk' : k < len := by simpa using hk
      obtain ⟨h1, -⟩ := hcell k (by omega)
      obtain ⟨h0, -⟩ := hcell 0 (by omega)
      rw [addr_add_zero] at h0
      have e := addr_lit (some_addr h0)
      have hlt := World.block_lt_of_cell? W _ h0
      rw [e, Addr.add_lit] at h1
      refine ⟨x.block, x.off, by rw [← e], hlt, h1.trans ?_⟩
      rw [List.getD_eq_getElem?_getD, List.map_map, List.getElem?_map, List.getElem?_range hk']; rfl
    · have hk' : k < len := by simpa using hk
      rw [eg k hk']
      have := hw (Sx k).data.toList.length (by
        simp only [DataW.weights, Try.underlying22]
        exact List.mem_cons_of_mem _ (List.mem_append_left _ (weightsAll_mem (d := .lit (.string (Sx k).data.toList)) (List.mem_map.2 ⟨k, List.mem_range.2 hk', rfl⟩) (by simp [DataW.weights]))))
      simp only [reachBytes] at this
      have e2 : (Sx k).data.toList.length = (Sx k).size := by simp
      omega

set_option maxRecDepth 100000 in
theorem liftedE (os : Os) (started : os.Started) (H : Type) (enc : TypeId × Value → H) :
    ReturnsInHanded {} Try.checked os 5 .any (Rows.fnNewListExtentAddsUpAtAnyCutSpec.pre6 enc Try.prog Try.f5 Rows.fnNewListExtentAddsUpAtAnyCutRow.domain false) (Rows.fnNewListExtentAddsUpAtAnyCutSpec.post enc Try.prog Try.f5 false true false false) := by
  refine returnsInHanded_of_change_sized (C := Try.checked) own started (by kernel_rfl) Try.func5
    (ChangeSpec.witness6 (enc := enc) (C := Try.checked) false ⟨#[], #[.slice none 0 0, .int .i64 0], []⟩ 8 (by kernel_rfl) (by kernel_rfl) (by kernel_rfl) (by kernel_rfl)) ?_
  intro W base args ds gs before hval0 hW _ hsz0 _
  have hval : ∀ (j : Nat) t v, Try.f5.params[j]? = some t → args[j]? = some v → Value.okWide Try.prog W .any base t v := hval0
  have hsz : (DataW.weightsEach Try.prog (Try.f5.params.toList ++ Rows.fnNewListExtentAddsUpAtAnyCutSpec.plain.varTypes Try.prog) (ds ++ gs)).all (· ≤ reachBytes) = true := hsz0
  have hW' := hW
  obtain ⟨p, q, hA0, hV, rfl, hfz, hnd⟩ := hW
  have hA : DataW.TrodAll enc Try.prog W 0 (fun _ => true) true Try.f5.params.toList args.toList ds p := hA0
  rw [Try.params5] at hA hval hsz
  obtain ⟨v0, vs0, d0, ds0, p0, q0, hargs, rfl, rfl, h0, r0⟩ := trodAll_cons hA
  obtain ⟨v1, vs1, d1, ds1, p1, q1, rfl, rfl, rfl, h1, r1⟩ := trodAll_cons r0
  obtain ⟨rfl, rfl, rfl⟩ := trodAll_nil r1
  obtain rfl : args = #[v0, v1] := by cases args; simp_all
  obtain ⟨rfl, rfl⟩ := trodVars_none hV
  have hwt : ∀ (j t : Nat) (d : DataW H), ([22, 3] ++ Rows.fnNewListExtentAddsUpAtAnyCutSpec.plain.varTypes Try.prog)[j]? = some t → ([d0, d1] ++ [])[j]? = some d → ∀ n ∈ d.weights Try.prog t, n ≤ reachBytes :=
    fun j t d ht hd n hn => by
      have := List.all_eq_true.1 hsz n (DataW.weights_mem_each (j := j) ht hd n hn)
      simpa using this
  obtain ⟨a0, len0, cap0, rfl⟩ := okWide_slice Try.underlying22 (hval 0 22 v0 rfl rfl)
  have k0 := h0
  have lt0 : ∀ x ∈ p0, x.block < W.heap.size := by obtain ⟨m, hm⟩ := k0; exact DataW.trod_lt m _ _ _ hm
  obtain ⟨ss0, w0, b0⟩ : ∃ ss, Rs W.heap.size W (.slice a0 len0 cap0) ss ∧ Sz ss := by
    obtain ⟨fuel, hf⟩ := h0
    exact open_ss hf (hwt 0 22 d0 rfl rfl)
  obtain ⟨i1, rfl, rfl, rfl, w1⟩ := open_int Try.underlying3 (hval 1 3 v1 rfl rfl) h1
  clear hA0 hval0
  refine (walkE _ ss0 i1 W w0 b0 (bounds_i64 w1)).mono fun e W' ⟨he, bel⟩ => ?_
  subst he
  exact ⟨_, rfl, _, _, _, [], _, [], hW', trodAll_mk1 (shut_bool Try.underlying4 _), (trodAll_cons_mk (Below.trod laidOut (by kernel_rfl) (of_decide_eq_true (by kernel_rfl)) k0 bel lt0) (trodAll_cons_mk (shut_int Try.underlying3 w1) trodAll_mk0)), rfl, bel.frame _, fun h => by cases h⟩

/-- THE STATEMENT -/
theorem rowE_holds : Rows.FnNewListExtentAddsUpAtAnyCutSaid :=
  OpenClaim.holds_of_wide 5 Try.f5 rfl rfl rfl rfl rfl rfl rfl ⟨rfl, rfl, rfl, rfl, rfl⟩ rfl rfl rfl rfl rfl (by kernel_rfl) Try.func5 (by kernel_rfl)
    (of_decide_eq_true (by kernel_rfl)) (by unfold Func.isWrapper; first | (rw [if_pos (by decide +kernel)]; kernel_rfl) | (rw [if_neg (by decide +kernel)]; exact ⟨rfl, rfl⟩))
    (fun os started H enc _ => liftedE os started H enc)
end Go.Proofs.Qxb6609148a
