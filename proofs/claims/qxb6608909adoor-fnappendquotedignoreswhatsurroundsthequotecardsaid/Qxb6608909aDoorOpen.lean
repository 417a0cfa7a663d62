/-
  From the row's readings to the walk's words: a slice of bytes that came in, a slice of slices of bytes, the library's table of powers of ten.
-/
import Derived.Test.Qxb6608909aDoorLawA
import Derived.ProofKit
import Derived.OpenShut
import Derived.LaidMore
import Derived.Stop.Joined
import Derived.ChangeOld
import Derived.SizedLaws
import Derived.Lib.LaidTab
import Derived.Deep.Matrix
namespace Go.Proofs.Qxb6608909aDoor
open Go.ChangeShapes Go.WideShapes Go.ChangeAt Go.RowKit Go.Deep

theorem own : ownKnob Tryd.prog.godebug = none := by kernel_rfl
theorem laidOut : laidOutB Tryd.prog = true := by kernel_rfl
theorem cells5 : Tryd.prog.cellsOf 5 = 1 := by kernel_rfl
theorem cells22 : Tryd.prog.cellsOf 22 = 1 := by kernel_rfl
theorem bytes5 : Tryd.prog.bytesOf 5 = 1 := by kernel_rfl
theorem bytes22 : Tryd.prog.bytesOf 22 = 24 := by kernel_rfl

theorem gPow : Tryd.prog.globalNamed powName = some 2 := by kernel_rfl
theorem tPow : (Tryd.prog.globals[2]?).map (·.type) = some 81 := by kernel_rfl
theorem cells59 : Tryd.prog.cellsOf 59 = 1 := by kernel_rfl
theorem cells81 : Tryd.prog.cellsOf 81 = 20 := by kernel_rfl

/-- the length of each row of a slice of slices is within the reach -/
theorem weightsAll_mem {H : Type} {P : Program} {e : TypeId} {d : DataW H} {n : Nat} : ∀ {l : List (DataW H)}, d ∈ l → n ∈ d.weights P e → n ∈ DataW.weightsAll P e l
  | [], h, _ => by simp at h
  | x :: l, h, hn => by
    simp only [DataW.weightsAll, List.mem_append]
    rcases List.mem_cons.1 h with rfl | h
    · exact .inl hn
    · exact .inr (weightsAll_mem h hn)

theorem some_addr {w : World} {a : Addr} {v : Value} (h : w.cell? a = some v) : a.spot = none := by
  unfold World.cell? at h
  split at h
  · split at h
    · simp at h
    · rename_i hh; simpa using hh
  · simp at h

theorem addr_lit {a : Addr} (h : a.spot = none) : a = ⟨a.block, a.off, none⟩ := by
  cases a; simp at h; rw [h]
theorem addr_add_zero (a : Addr) : a.add 0 = a := by
  cases a with
  | mk b o s => cases s <;> simp [Addr.add]

/-- cells at 'a.add k' as the walk wants them -/
theorem rd_of_cells {w : World} {a : Addr} {len cap : Nat} {zs : List Int} (hl : len ≤ cap) (hcap : cap ≤ 140737488355328) (hz : zs.length = cap)
    (hc : ∀ i, i < cap → w.cell? (a.add i) = some (.int .u8 (zs.getD i 0))) : Rd w.heap.size w (.slice (some a) len cap) (zs.take len) := by
  have e : (zs.take len).length = len := by simp; omega
  refine ⟨some a, cap, by rw [e], by omega, by omega, (by simp), fun k hk => ?_⟩
  rw [e] at hk
  have h1 := hc k (by omega)
  have h0 := hc 0 (by omega)
  rw [addr_add_zero] at h0
  have h2 := addr_lit (some_addr h0)
  refine ⟨a.block, a.off, by rw [← h2], ?_, ?_⟩
  · have := World.block_lt_of_cell? w _ h1
    rw [h2, Addr.add_lit] at this
    exact this
  · rw [h2, Addr.add_lit] at h1
    rw [h1]
    congr 2
    rw [List.getD_eq_getElem?_getD, List.getD_eq_getElem?_getD, List.getElem?_take_of_lt hk]

theorem rd_nil (w : World) : Rd w.heap.size w (.slice none 0 0) [] := ⟨none, 0, rfl, by simp, by simp, fun _ => rfl, fun k hk => by simp at hk⟩

/-- A SLICE OF BYTES THAT CAME IN -/
theorem open_bytes {H : Type} {enc : TypeId × Value → H} {W : World} {held : Bool} {fuel : Nat} {a : Option Addr} {len cap : Nat} {d : DataW H} {ps : List MemPlace}
    (hf : DataW.trod enc Tryd.prog W 0 (fun _ => true) held fuel 22 (Value.cells (.slice a len cap)).toList = some (d, ps)) (hw : ∀ n ∈ d.weights Tryd.prog 22, n ≤ reachBytes) :
    ∃ xs, Rd W.heap.size W (.slice a len cap) xs := by
  rcases open_ints Tryd.underlying22 Tryd.underlying5 cells5 hf with ⟨hcs, _⟩ | ⟨x, l, c, zs, hcs, _, hl, hm, hz, hx, hcell, hwz⟩
  · simp [Value.cells] at hcs
    obtain ⟨rfl, rfl, rfl⟩ := hcs
    exact ⟨[], rd_nil W⟩
  · simp [Value.cells] at hcs
    obtain ⟨rfl, rfl, rfl⟩ := hcs
    simp only [if_true] at hz
    simp only [Prod.mk.injEq] at hx
    obtain ⟨rfl, -⟩ := hx
    have h1 := hw ((zs.take len).length * 1 + (zs.drop len).length * 1) (by
      simp [DataW.weights, Tryd.underlying22, bytes5, lits])
    have h2 : zs.length ≤ 140737488355328 := by
      have : (zs.take len).length + (zs.drop len).length = zs.length := by simp; omega
      simp only [reachBytes] at h1
      omega
    exact ⟨_, rd_of_cells hl (by omega) hz (fun i hi => hcell i (by omega))⟩

/-- A SLICE OF SLICES OF BYTES THAT CAME IN -/
theorem open_rows {H : Type} {enc : TypeId × Value → H} {W : World} {held : Bool} {fuel : Nat} {a : Option Addr} {len cap : Nat} {d : DataW H} {ps : List MemPlace}
    (hf : DataW.trod enc Tryd.prog W 0 (fun _ => true) held fuel 23 (Value.cells (.slice a len cap)).toList = some (d, ps)) (hw : ∀ n ∈ d.weights Tryd.prog 23, n ≤ reachBytes) :
    ∃ ess, RdAll W.heap.size W (.slice a len cap) ess := by
  rcases open_int_rows Tryd.underlying23 Tryd.underlying22 Tryd.underlying5 cells22 cells5 hf with ⟨hcs, _⟩ | ⟨x, l, c, A, L, C, Z, hcs, _, hl, hm, hx, hcell⟩
  · simp [Value.cells] at hcs
    obtain ⟨rfl, rfl, rfl⟩ := hcs
    exact ⟨[], none, 0, rfl, by simp, by simp, fun _ => rfl, fun k hk => by simp at hk⟩
  · simp [Value.cells] at hcs
    obtain ⟨rfl, rfl, rfl⟩ := hcs
    simp only [Prod.mk.injEq] at hx
    obtain ⟨rfl, -⟩ := hx
    have hlen : len * 24 ≤ 140737488355328 := by
      have := hw ((len + (cap - len)) * 24) (by simp [DataW.weights, Tryd.underlying23, bytes22])
      simp only [reachBytes] at this
      omega
    refine ⟨(List.range len).map fun r => (Z r).take (L r), some x, cap, by simp, by simpa using hl, by simp; unfold maxLen at hm; omega, (by simp), fun k hk => ?_⟩
    have hk' : k < len := by simpa using hk
    obtain ⟨h1, h2, h3, h4, -, h6, h7⟩ := hcell k (by omega)
    obtain ⟨h0, -⟩ := hcell 0 (by omega)
    rw [addr_add_zero] at h0
    have e := addr_lit (some_addr h0)
    have hlt := World.block_lt_of_cell? W _ h0
    rw [e, Addr.add_lit] at h1
    refine ⟨x.block, x.off, .slice (A k) (L k) (C k), by rw [← e], hlt, h1, ?_⟩
    have eg : ((List.range len).map fun r => (Z r).take (L r)).getD k [] = (Z k).take (L k) := by
      rw [List.getD_eq_getElem?_getD, List.getElem?_map, List.getElem?_range hk']; rfl
    rw [eg]
    cases hA : A k with
    | none =>
      have hC := h6 hA
      have hL : L k = 0 := by omega
      rw [hC, hL, List.take_zero]
      exact rd_nil W
    | some a' =>
      have hcap : C k ≤ 140737488355328 := by
        have := hw (((Z k).take (L k)).length * 1 + ((Z k).drop (L k)).length * 1) (by
          simp only [DataW.weights, Tryd.underlying23]
          refine List.mem_cons_of_mem _ (List.mem_append_left _ (weightsAll_mem (d := intRow .u8 (A k) (L k) (Z k)) (List.mem_map.2 ⟨k, List.mem_range.2 hk', rfl⟩) ?_))
          rw [hA]
          simp [intRow, DataW.weights, Tryd.underlying22, bytes5, lits])
        have e2 : ((Z k).take (L k)).length + ((Z k).drop (L k)).length = (Z k).length := by simp; omega
        simp only [reachBytes] at this
        omega
      exact rd_of_cells h2 hcap h4 (h7 a' hA).2

/-- the table of powers of ten, out of the row's list -/
theorem pow_of_laid {W : World} (h : laidMetH Tryd.prog Rows.fnAppendArrayIsTheCanonicalArrayAfterBRow.laid W) : Pow W.heap.size W := by
  rw [MakeChecks.laidMetH_plain _ _ _ (by kernel_rfl)] at h
  obtain ⟨ps, ⟨g0, t0, cs0, f0, p0, q0, hg0, ht0, hv0, hd0, ⟨g1, t1, cs1, f1, p1, q1, hg1, ht1, hv1, hd1, ⟨g2, t2, cs2, f2, p2, q2, hg2, ht2, hv2, hd2, _, _⟩, _⟩, _⟩, _, _⟩ := h
  have hT : Lib.TabIs Tryd.prog W powName .u64 Lib.pow10Tab := by
    obtain rfl := Option.some.inj (gPow.symm.trans hg2)
    obtain rfl := Option.some.inj (tPow.symm.trans ht2)
    unfold Lib.TabIs
    have e := Lib.cells_of_tab (zs := Lib.pow10Tab) Tryd.underlying81 Tryd.underlying59 cells59 cells81 hd2
    rw [← e]
    exact hv2
  exact Lib.tabBelow_of_tabIs hT
end Go.Proofs.Qxb6608909aDoor
