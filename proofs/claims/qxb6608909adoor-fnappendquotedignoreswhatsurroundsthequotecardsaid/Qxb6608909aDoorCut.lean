import Derived.Test.Qxb6608909aDoorAq
namespace Go.Proofs.Qxb6608909aDoor
open Go.RowKit Go.Joins

theorem run_size22 (wx : World) : (sizeOf (Tryd.prog.elem 22)).run Tryd.prog wx = .ok 1 wx := by kernel_rfl

/-- the address behind a cut at lo -/
def cutAt (ao : Option Addr) (cap lo : Nat) : Option Addr := if cap = lo then ao else ao.map (·.add (lo * 1))

theorem rd_cutAt {B : Nat} {w : World} {ao : Option Addr} {n cap : Nat} {xs : List Int} (h : Rd B w (.slice ao n cap) xs) (lo hi : Nat) (h1 : lo ≤ hi) (h2 : hi ≤ xs.length) :
    Rd B w (.slice (cutAt ao cap lo) (hi - lo) (cap - lo)) ((xs.take hi).drop lo) := by
  obtain ⟨ao', cap', e, hl, hm, hn, hc⟩ := h
  simp only [Value.slice.injEq] at e
  obtain ⟨rfl, rfl, rfl⟩ := e
  have hlen : ((xs.take hi).drop lo).length = hi - lo := by simp; omega
  refine ⟨cutAt ao cap lo, cap - lo, by rw [hlen], by rw [hlen]; omega, by rw [hlen]; omega, ?_, ?_⟩
  · intro e
    unfold cutAt at e
    split at e
    · omega
    · have : ao = none := by cases ao <;> simp at e ⊢
      have := hn this
      omega
  · intro k hk
    rw [hlen] at hk
    obtain ⟨b, off, rfl, hb, hcell⟩ := hc (lo + k) (by omega)
    refine ⟨b, off + lo, ?_, hb, ?_⟩
    · unfold cutAt
      rw [if_neg (by omega)]
      simp [Addr.add_lit]
    · rw [Nat.add_assoc, hcell]
      congr 2
      rw [List.getD_eq_getElem?_getD, List.getD_eq_getElem?_getD, List.getElem?_drop, List.getElem?_take_of_lt (by omega)]

theorem run_cut_lh (wx : World) (ao : Option Addr) (n cap lo hi : Nat) (LO HI : Int) (e1 : LO = lo) (e2 : HI = hi) (h1 : lo ≤ hi) (h2 : hi ≤ cap) :
    (Instr.slice 22 (.slice ao n cap) (some (.int .i64 LO)) (some (.int .i64 HI)) none).run Tryd.prog wx = .ok (.slice (cutAt ao cap lo) (hi - lo) (cap - lo)) wx := by
  subst e1; subst e2
  rw [run_slice_lh wx 22 _ n cap Tryd.underlying22 .i64 .i64 (lo : Int) (hi : Int) (by omega) (by omega) (by omega), run_size22]
  simp only [Result.andThen, sliced, Int.toNat_natCast]
  rfl
theorem run_cut_l (wx : World) (ao : Option Addr) (n cap lo : Nat) (LO : Int) (e1 : LO = lo) (h1 : lo ≤ n) :
    (Instr.slice 22 (.slice ao n cap) (some (.int .i64 LO)) none none).run Tryd.prog wx = .ok (.slice (cutAt ao cap lo) (n - lo) (cap - lo)) wx := by
  subst e1
  rw [run_slice_l wx 22 _ n cap Tryd.underlying22 .i64 (lo : Int) (by omega) (by omega), run_size22]
  simp only [Result.andThen, sliced, Int.toNat_natCast]
  rfl
theorem run_cut_h (wx : World) (ao : Option Addr) (n cap hi : Nat) (HI : Int) (e1 : HI = hi) (h1 : hi ≤ cap) :
    (Instr.slice 22 (.slice ao n cap) none (some (.int .i64 HI)) none).run Tryd.prog wx = .ok (.slice (cutAt ao cap 0) hi cap) wx := by
  subst e1
  rw [run_slice_h wx 22 _ n cap Tryd.underlying22 .i64 (hi : Int) (by omega) (by omega), run_size22]
  simp only [Result.andThen, sliced, Int.toNat_natCast, Nat.sub_zero]
  rfl

theorem splice3_all {α : Type} (L a b d : List α) (h : L.length = a.length + b.length + d.length) : splice (splice (splice L 0 a) a.length b) (a.length + b.length) d = a ++ (b ++ d) :=
  splice_splice_splice L a b d a.length b.length rfl rfl h

set_option maxHeartbeats 2000000 in
set_option maxRecDepth 100000 in
theorem zzCat3_any (va vb vd : Value) (xa xb xd : List Int) (w : World) (ha : Rd w.heap.size w va xa) (hb : Rd w.heap.size w vb xb) (hd : Rd w.heap.size w vd xd) (hlim : xa.length + xb.length + xd.length ≤ 1048576) :
    Calls Tryd.prog 18 #[va, vb, vd] w fun e w' => ∃ v', e = .returned v' ∧ Rd w'.heap.size w' v' (xa ++ (xb ++ xd)) ∧ Below w.heap.size w w' := by
  obtain ⟨i0, hinf, hz0, hz1, hz2⟩ := info_parts info5
  have HA := hid ha
  have HB := hid hb
  have HD := hid hd
  obtain ⟨aa, ca, rfl, la, ma, na, -⟩ := ha
  obtain ⟨ab, cb, rfl, lb, mb, nb, -⟩ := hb
  obtain ⟨ad, cd, rfl, ld, md, nd, -⟩ := hd
  obtain ⟨A, hA⟩ : ∃ A, A = xa.map (Value.int .u8) := ⟨_, rfl⟩
  obtain ⟨Bb, hBb⟩ : ∃ Bb, Bb = xb.map (Value.int .u8) := ⟨_, rfl⟩
  obtain ⟨D, hD⟩ : ∃ D, D = xd.map (Value.int .u8) := ⟨_, rfl⟩
  have lA : A.length = xa.length := by rw [hA]; simp
  have lB : Bb.length = xb.length := by rw [hBb]; simp
  have lD : D.length = xd.length := by rw [hD]; simp
  have oA : Hid (∀ u ∈ A, u.oneCell' = true) := by rw [hA]; exact ints_oneCell _ _
  have oB : Hid (∀ u ∈ Bb, u.oneCell' = true) := by rw [hBb]; exact ints_oneCell _ _
  have oD : Hid (∀ u ∈ D, u.oneCell' = true) := by rw [hD]; exact ints_oneCell _ _
  have sA : Hid (∀ w1, Below w.heap.size w w1 → 0 < A.length → ∃ x, aa = some x ∧ ∀ j u, A[j]? = some u → w1.cell? (x.add j) = some u) := by
    intro w1 h1 h0
    cases aa with
    | none => have := na rfl; omega
    | some x => exact ⟨x, rfl, by rw [hA]; exact cells_rd (HA.out.below h1)⟩
  have sB : Hid (∀ w1, Below w.heap.size w w1 → 0 < Bb.length → ∃ x, ab = some x ∧ ∀ j u, Bb[j]? = some u → w1.cell? (x.add j) = some u) := by
    intro w1 h1 h0
    cases ab with
    | none => have := nb rfl; omega
    | some x => exact ⟨x, rfl, by rw [hBb]; exact cells_rd (HB.out.below h1)⟩
  have sD : Hid (∀ w1, Below w.heap.size w w1 → 0 < D.length → ∃ x, ad = some x ∧ ∀ j u, D[j]? = some u → w1.cell? (x.add j) = some u) := by
    intro w1 h1 h0
    cases ad with
    | none => have := nd rfl; omega
    | some x => exact ⟨x, rfl, by rw [hD]; exact cells_rd (HD.out.below h1)⟩
  have HE : Hid (A ++ (Bb ++ D) = (xa ++ (xb ++ xd)).map (Value.int .u8)) := by show _ = _; rw [hA, hBb, hD]; simp
  clear hA hBb hD na nb nd
  obtain ⟨N, hN⟩ : ∃ N : Nat, N = xa.length + xb.length + xd.length := ⟨_, rfl⟩
  have hNi : (xa.length : Int) + xb.length + xd.length = N := by omega
  have HN := hid hN
  have hcut1 := fun wx => run_cut_l wx (some ⟨w.heap.size, 0, none⟩) N N xa.length xa.length rfl (by omega)
  have hcut2 := fun wx => run_cut_l wx (some ⟨w.heap.size, 0, none⟩) N N (xa.length + xb.length) ((xa.length : Int) + xb.length) (by omega) (by omega)
  obtain ⟨c1, hc1⟩ : ∃ c1, c1 = cutAt (some ⟨w.heap.size, 0, none⟩) N xa.length := ⟨_, rfl⟩
  obtain ⟨c2, hc2⟩ : ∃ c2, c2 = cutAt (some ⟨w.heap.size, 0, none⟩) N (xa.length + xb.length) := ⟨_, rfl⟩
  rw [← hc1] at hcut1
  rw [← hc2] at hcut2
  have P1 : Hid (0 < Bb.length → c1 = some ⟨w.heap.size, xa.length, none⟩) := by
    intro h; rw [hc1]; unfold cutAt; rw [if_neg (by omega)]; simp [Addr.add_lit]
  have P2 : Hid (0 < D.length → c2 = some ⟨w.heap.size, xa.length + xb.length, none⟩) := by
    intro h; rw [hc2]; unfold cutAt; rw [if_neg (by omega)]; simp [Addr.add_lit]
  have mA : Hid (A.length = xa.length.min N) := by show A.length = min _ _; omega
  have mB : Hid (Bb.length = xb.length.min (N - xa.length)) := by show Bb.length = min _ _; omega
  have mD : Hid (D.length = xd.length.min (N - (xa.length + xb.length))) := by show D.length = min _ _; omega
  clear hc1 hc2 hN
  go_enter Tryd.func18, Tryd.ntmps18
  go_wp2_with (first
    | (at_make; refine wpList_make_full _ rfl (.tmp 15) (.tmp 15) 22 rfl w.heap.size 5 i0 (.int .u8 0) 1 Tryd.underlying22 hinf hz0 hz1 .i64 .i64 _ _ N rfl rfl (by first | rfl | omega) (by first | rfl | omega) (by have := HN.out; rw [hz2]; omega) (by have := HN.out; unfold maxLen; omega) (Nat.le_refl _) ?_; intro w1 hown hgr; obtain ⟨L, hL, hblk⟩ := own_block hown; have hbel : Below w.heap.size w w1 := (Below.refl _ _).grown hgr (Nat.le_refl _) (by simp); clear hown hgr; have HL := hid hL; have HK := hid hblk; have HBL := hid hbel; clear hL hblk hbel)
    | (refine wpList_copy_splice rfl (.tmp 17) (.tmp 18) 22 22 rfl 5 Tryd.underlying22 size5 _ _ _ _ _ _ rfl rfl w.heap.size 0 L 5 HK.out A mA.out (fun h => ⟨rfl, sA.out _ HBL.out h⟩) (by have := HN.out; have := HL.out; omega) oA.out w.heap.size w HBL.out (Nat.le_refl _) ?_; intro w2 HK2 hb2; have HBL2 := hid hb2; clear hb2)
    | (refine wpList_copy_splice rfl (.tmp 23) (.tmp 24) 22 22 rfl 5 Tryd.underlying22 size5 _ _ _ _ _ _ rfl rfl w.heap.size xa.length (splice L 0 A) 5 HK2.out Bb mB.out (fun h => ⟨P1.out h, sB.out _ HBL2.out h⟩) (by rw [length_splice _ _ _ (by have := HN.out; have := HL.out; omega)]; have := HN.out; have := HL.out; omega) oB.out w.heap.size w HBL2.out (Nat.le_refl _) ?_; intro w3 HK3 hb3; have HBL3 := hid hb3; clear hb3)
    | (refine wpList_copy_splice rfl (.tmp 32) (.tmp 33) 22 22 rfl 5 Tryd.underlying22 size5 _ _ _ _ _ _ rfl rfl w.heap.size (xa.length + xb.length) (splice (splice L 0 A) xa.length Bb) 5 HK3.out D mD.out (fun h => ⟨P2.out h, sD.out _ HBL3.out h⟩) (by rw [length_splice _ _ _ (by rw [length_splice _ _ _ (by have := HN.out; have := HL.out; omega)]; have := HN.out; have := HL.out; omega), length_splice _ _ _ (by have := HN.out; have := HL.out; omega)]; have := HN.out; have := HL.out; omega) oD.out w.heap.size w HBL3.out (Nat.le_refl _) ?_; intro w4 HK4 hb4; have HBL4 := hid hb4; clear hb4))
  go_ret
  refine ⟨_, rfl, ?_, HBL4.out⟩
  have hh := HK4.out
  have hl := HL.out
  have hn := HN.out
  rw [show xa.length = A.length by omega, show xb.length = Bb.length by omega, splice3_all L A Bb D (by omega), HE.out] at hh
  exact Rd_own (ownsRow_of_block (L := (xa ++ (xb ++ xd)).map (Value.int .u8)) (Nat.le_refl _) (by simp; omega) (by unfold maxLen; omega) hh) (by simp; omega)
end Go.Proofs.Qxb6608909aDoor
