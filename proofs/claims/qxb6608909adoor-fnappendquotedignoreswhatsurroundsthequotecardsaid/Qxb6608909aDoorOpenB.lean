/- A slice of bytes that came in, with the bytes' bounds. -/
import Derived.Test.Qxb6608909aDoorOpen
import Derived.Test.Qxb6608909aDoorAq
namespace Go.Proofs.Qxb6608909aDoor
open Go.ChangeShapes Go.WideShapes Go.ChangeAt Go.RowKit Go.Deep

theorem byt_of_wf {zs : List Int} {len : Nat} (h : ∀ n ∈ zs, (Lit.int .u8 n).wf = true) : Byt (zs.take len) := by
  intro k hk
  have hm : (zs.take len).getD k 0 ∈ zs := by
    rw [List.getD_eq_getElem?_getD, List.getElem?_eq_getElem hk]
    exact List.mem_of_mem_take (List.getElem_mem hk)
  have := h _ hm
  have := bounds_u8 this
  omega

theorem open_bytesB {H : Type} {enc : TypeId × Value → H} {W : World} {held : Bool} {fuel : Nat} {a : Option Addr} {len cap : Nat} {d : DataW H} {ps : List MemPlace}
    (hf : DataW.trod enc Tryd.prog W 0 (fun _ => true) held fuel 22 (Value.cells (.slice a len cap)).toList = some (d, ps)) (hw : ∀ n ∈ d.weights Tryd.prog 22, n ≤ reachBytes) :
    ∃ xs, Rd W.heap.size W (.slice a len cap) xs ∧ Byt xs := by
  rcases open_ints Tryd.underlying22 Tryd.underlying5 cells5 hf with ⟨hcs, _⟩ | ⟨x, l, c, zs, hcs, _, hl, hm, hz, hx, hcell, hwz⟩
  · simp [Value.cells] at hcs
    obtain ⟨rfl, rfl, rfl⟩ := hcs
    exact ⟨[], rd_nil W, fun k hk => by simp at hk⟩
  · simp [Value.cells] at hcs
    obtain ⟨rfl, rfl, rfl⟩ := hcs
    simp only [if_true] at hz
    simp only [Prod.mk.injEq] at hx
    obtain ⟨rfl, -⟩ := hx
    have h1 := hw ((zs.take len).length * 1 + (zs.drop len).length * 1) (by
      simp [DataW.weights, Tryd.underlying22, bytes5, lits])
    have h2 : zs.length ≤ 140737488355328 := by
      have : (zs.take len).length + (zs.drop len).length = zs.length := by simp; omega
      simp only [reachBytes] at h1
      omega
    exact ⟨_, rd_of_cells hl (by omega) hz (fun i hi => hcell i (by omega)), byt_of_wf hwz⟩
end Go.Proofs.Qxb6608909aDoor
