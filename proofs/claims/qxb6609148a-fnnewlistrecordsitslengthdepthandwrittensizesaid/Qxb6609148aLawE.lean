import Derived.Test.Qxb6609148aStrs
import Derived.Test.Qxb6609148aUtf
namespace Go.Proofs.Qxb6609148a
open Go.RowKit Go.Joins

theorem info9 : (Try.prog.info? 9).map (fun i => (i.zero, i.size, i.bytes)) = some (some (.string .empty), 1, 16) := by kernel_rfl
theorem size9 : (Try.prog.info? 9).map (·.size) = some 1 := by kernel_rfl
theorem run_size22 (wx : World) : (sizeOf (Try.prog.elem 22)).run Try.prog wx = .ok 1 wx := by kernel_rfl

/-- the address behind a cut at lo -/
def cutAt (ao : Option Addr) (cap lo : Nat) : Option Addr := if cap = lo then ao else ao.map (·.add (lo * 1))

theorem rv_cutAt {B : Nat} {w : World} {ao : Option Addr} {n cap : Nat} {xs : List Value} (h : Rv B w (.slice ao n cap) xs) (lo hi : Nat) (h1 : lo ≤ hi) (h2 : hi ≤ xs.length) :
    Rv B w (.slice (cutAt ao cap lo) (hi - lo) (cap - lo)) ((xs.take hi).drop lo) := by
  obtain ⟨ao', cap', e, hl, hm, hn, hc⟩ := h
  simp only [Value.slice.injEq] at e
  obtain ⟨rfl, rfl, rfl⟩ := e
  have hlen : ((xs.take hi).drop lo).length = hi - lo := by simp; omega
  refine ⟨cutAt ao cap lo, cap - lo, by rw [hlen], by rw [hlen]; omega, by rw [hlen]; omega, ?_, ?_⟩
  · intro e
    unfold cutAt at e
    split at e
    · omega
    · have : ao = none := by cases ao <;> simp at e ⊢
      have := hn this
      omega
  · intro k hk
    rw [hlen] at hk
    obtain ⟨b, off, rfl, hb, hcell⟩ := hc (lo + k) (by omega)
    refine ⟨b, off + lo, ?_, hb, ?_⟩
    · unfold cutAt
      rw [if_neg (by omega)]
      simp [Addr.add_lit]
    · rw [Nat.add_assoc, hcell]
      congr 1
      rw [List.getD_eq_getElem?_getD, List.getD_eq_getElem?_getD, List.getElem?_drop, List.getElem?_take_of_lt (by omega)]

set_option maxRecDepth 100000 in
theorem run_cut_l (wx : World) (ao : Option Addr) (n cap lo : Nat) (LO : Int) (e1 : LO = lo) (h1 : lo ≤ n) :
    (Instr.slice 22 (.slice ao n cap) (some (.int .i64 LO)) none none).run Try.prog wx = .ok (.slice (cutAt ao cap lo) (n - lo) (cap - lo)) wx := by
  subst e1
  rw [run_slice_l wx 22 _ n cap Try.underlying22 .i64 (lo : Int) (by omega) (by omega), run_size22]
  simp only [Result.andThen, sliced, Int.toNat_natCast]
  rfl
set_option maxRecDepth 100000 in
theorem run_cut_h (wx : World) (ao : Option Addr) (n cap hi : Nat) (HI : Int) (e1 : HI = hi) (h1 : hi ≤ cap) :
    (Instr.slice 22 (.slice ao n cap) none (some (.int .i64 HI)) none).run Try.prog wx = .ok (.slice (cutAt ao cap 0) hi cap) wx := by
  subst e1
  rw [run_slice_h wx 22 _ n cap Try.underlying22 .i64 (hi : Int) (by omega) (by omega), run_size22]
  simp only [Result.andThen, sliced, Int.toNat_natCast, Nat.sub_zero]
  rfl

theorem splice_all {α : Type} (L cs : List α) (h : L.length = cs.length) : splice L 0 cs = cs := by
  unfold splice; simp [← h]
theorem copied {w : World} {g : Nat} {L : List Value} {ss : List ByteArray} (hl : ss.length ≤ 65536) (hL : L.length = ss.length) (h : w.heap[g]? = some (.cells (splice L 0 (ss.map Value.string)).toArray 9)) :
    Rs w.heap.size w (.slice (some ⟨g, 0, none⟩) ss.length ss.length) ss := by
  rw [splice_all _ _ (by simpa using hL)] at h
  refine ⟨some ⟨g, 0, none⟩, ss.length, by simp, by simp, by simp; omega, (by simp), fun k hk => ⟨g, 0, rfl, (Array.getElem?_eq_some_iff.1 h).1, ?_⟩⟩
  rw [cell_of_block h, Nat.zero_add, List.getD_eq_getElem?_getD, List.getElem?_eq_getElem hk]
  simp
theorem rs_cells {B : Nat} {w : World} {ad : Addr} {n cap : Nat} {ss : List ByteArray} (h : Rs B w (.slice (some ad) n cap) ss) : ∀ j u, (ss.map Value.string)[j]? = some u → w.cell? (ad.add j) = some u := by
  obtain ⟨ao, cap', e, -, -, -, hc⟩ := h
  simp only [Value.slice.injEq] at e
  obtain ⟨rfl, rfl, rfl⟩ := e
  intro j u hj
  have hjl : j < (ss.map Value.string).length := by
    by_cases hx : j < (ss.map Value.string).length
    · exact hx
    · rw [List.getElem?_eq_none (by omega)] at hj; simp at hj
  obtain ⟨b, off, e, -, hx⟩ := hc j hjl
  simp only [Option.some.injEq] at e
  subst e
  rw [Addr.add_lit, hx, List.getD_eq_getElem?_getD, hj]
  rfl
theorem strings_oneCell (ss : List ByteArray) : ∀ u ∈ ss.map Value.string, u.oneCell' = true := by
  intro u hu
  obtain ⟨s, -, rfl⟩ := List.mem_map.1 hu
  rfl
theorem alloc_lb (w : World) (sl : Value) (t : Nat) : ∃ w4, w4 = w.alloc (.cells #[sl, .int .i64 0, .int .i64 t] 30) ∧ LB w.heap.size w4 sl 0 t ∧ Below w.heap.size w w4 ∧ w.heap.size < w4.heap.size :=
  ⟨_, rfl, heap_alloc_new w _, (Below.refl _ _).alloc (Nat.le_refl _) _, by simp⟩

/-- three lists stand in their blocks -/
def L3 (w0 w : World) (gl ga gb : Nat) (sl sa sb : Value) (T A B : Nat) : Prop :=
  LB gl w sl 0 T ∧ LB ga w sa 0 A ∧ LB gb w sb 0 B ∧ (gl < w.heap.size ∧ ga < w.heap.size ∧ gb < w.heap.size) ∧ Below w0.heap.size w0 w
theorem L3.on {w0 w w' : World} {gl ga gb : Nat} {sl sa sb : Value} {T A B : Nat} (h : L3 w0 w gl ga gb sl sa sb T A B) (hb : Below w.heap.size w w') : L3 w0 w' gl ga gb sl sa sb T A B := by
  obtain ⟨h1, h2, h3, ⟨h4, h5, h6⟩, h7⟩ := h
  have := hb.size
  exact ⟨(hb.block _ h4).trans h1, (hb.block _ h5).trans h2, (hb.block _ h6).trans h3, ⟨by omega, by omega, by omega⟩, below_on h7 hb⟩

set_option maxHeartbeats 40000000 in
set_option maxRecDepth 100000 in
theorem walkE (v : Value) (ss : List ByteArray) (x : Int) (w : World) (hs : Rs w.heap.size w v ss) (hz : Sz ss) (hx64 : -9223372036854775808 ≤ x ∧ x ≤ 9223372036854775807) :
    Calls Try.prog 5 #[v, .int .i64 x] w fun e w' => e = .returned (.bool true) ∧ Below w.heap.size w w' := by
  have HS0 := hid hs
  have HBY := hid (zzBytesE_any _ v ss x w hs hz)
  have HSO := hid (stringsOver_any _ v ss w hs hz)
  have HUT := hid (allValid_any _ v ss w hs hz)
  have HSZ := hid hz
  clear hz
  obtain ⟨i0, hinf, hz0, hz1, hz2⟩ := info_parts info9
  obtain ⟨ao, cap, rfl, hl, hm, hnil, -⟩ := hs.parts
  clear hs
  by_cases hx : 0 ≤ x ∧ x ≤ ss.length
  · obtain ⟨c, rfl⟩ : ∃ c : Nat, x = c := ⟨x.toNat, by omega⟩
    have hcn : (c : Int) ≤ ss.length := hx.2
    clear hx
    have MX : Hid ((ss.map Value.string).length = ss.length.min ss.length) := by show _ = min _ _; simp
    have FX : Hid (0 + (ss.map Value.string).length ≤ ss.length) := by show _ ≤ _; simp
    cases ao with
    | none =>
      have hsx : ∀ wx, (binOp .neq 22 (.slice none ss.length cap) (.slice none 0 0)).run Try.prog wx = .ok (.bool false) wx := fun wx => run_neq_slice_nil_any wx 22 9 none ss.length cap 0 0 Try.underlying22
      have HN0 : Hid (ss.length = 0) := by show _ = _; have := hnil rfl; omega
      clear hnil
      go_enter Try.func5, Try.ntmps5
      go_wp2_with (first
        | (go_at_call 19; refine HBY.out.mono ?_; rintro e w' ⟨⟨β, rfl⟩, hw⟩; have hw2 := hw.symm; clear hw; subst hw2; cases β)
        | (go_at_call 7; refine HSO.out.mono ?_; rintro e w' ⟨⟨β, rfl, hso⟩, hw⟩; have hw2 := hw.symm; clear hw; subst hw2; have hor : (β = false ∧ Hid (16 * ss.length + tot ss ≤ 1048576)) ∨ β = true := (by cases β; exact .inl ⟨rfl, hso rfl⟩; exact .inr rfl); clear hso; rcases hor with ⟨rfl, HSS⟩ | rfl)
        | (go_at_call 8; refine HUT.out.mono ?_; rintro e w' ⟨⟨β, rfl⟩, hw⟩; have hw2 := hw.symm; clear hw; subst hw2; cases β))
      · go_ret
        exact ⟨rfl, Below.refl _ _⟩
      · go_ret
        exact ⟨rfl, Below.refl _ _⟩
      · skip
        have HS := HS0
        have HB : Hid (Below w.heap.size w w) := Below.refl _ _

        have HZT := HSS
        have hn : ss.length ≤ 65536 := by have := HZT.out; omega
        clear HSS HBY HSO HUT HS0
        obtain ⟨T, hT⟩ : ∃ T, T = ss.length + tot ss := ⟨_, rfl⟩
        have hTb : T ≤ 1048576 := by have := HZT.out; omega
        have HT := hid hT
        clear hT
        go_loop [6, 7] (fun t i => ∃ k U : Nat, k ≤ ss.length ∧ i = .int .i64 k ∧ t = .int .i64 U ∧ U ≤ 1048576 ∧ Hid (U = ss.length + tot (ss.take k))) (fun _ i => ss.length - (intOf i).toNat)
        case atStart => exact ⟨0, ss.length, Nat.zero_le _, rfl, rfl, by omega, by show _ = _; simp [tot]⟩
        case round =>
          obtain ⟨k, U, hk, rfl, rfl, hU, HU⟩ := hrel
          by_cases hlt : (k : Int) < ss.length
          · have hkn : k < ss.length := by omega
            obtain ⟨aa, cc, e, -, -, -, hc⟩ := HS.out.parts
            simp only [Value.slice.injEq] at e
            obtain ⟨e1, -, -⟩ := e
            obtain ⟨b, off, e2, hlb, hx⟩ := hc k hkn
            rw [e2] at e1
            clear hc
            have ht := tot_take ss k hkn
            have hle := tot_take_le ss (k + 1)
            have HU2 : Hid (U + (ss.getD k .empty).size = ss.length + tot (ss.take (k + 1))) := by
              show _ = _
              rw [ht, HU.out]; omega
            have hub : U + (ss.getD k .empty).size ≤ 1048576 := by have := HU2.out; have := HZT.out; omega
            obtain ⟨s, hse⟩ : ∃ s, s = ss.getD k .empty := ⟨_, rfl⟩
            rw [← hse] at hx HU2 hub
            clear ht hse hle
            exact absurd hkn (by have := HN0.out; omega)
          · have hke : k = ss.length := by omega
            subst hke
            have hUT : U = T := by
              have := HU.out
              rw [List.take_length] at this
              rw [HT.out]; exact this
            subst hUT
            clear HU hU hk hlt
            have hcutH := fun wx => run_cut_h wx (none) ss.length (cap) c (c : Int) rfl (by omega)
            have hcutL := fun wx => run_cut_l wx (none) ss.length (cap) c (c : Int) rfl (by omega)
            have HSa : Hid (Rs w.heap.size w (.slice (cutAt (none) (cap) 0) c (cap)) (ss.take c)) := by
              have := rv_cutAt HS.out 0 c (by omega) (by simp; omega)
              rw [Nat.sub_zero, Nat.sub_zero, List.drop_zero] at this
              show Rv _ _ _ _
              rw [List.map_take]
              exact this
            have HSb : Hid (Rs w.heap.size w (.slice (cutAt (none) (cap) c) (ss.length - c) ((cap) - c)) (ss.drop c)) := by
              have := rv_cutAt HS.out c ss.length (by omega) (by simp)
              have e : ((ss.map Value.string).take ss.length).drop c = (ss.drop c).map Value.string := by
                rw [List.take_of_length_le (by simp), List.map_drop]
              rw [e] at this
              exact this
            obtain ⟨ch, hch⟩ : ∃ ch, ch = cutAt (none) (cap) 0 := ⟨_, rfl⟩
            obtain ⟨cl, hcl⟩ : ∃ cl, cl = cutAt (none) (cap) c := ⟨_, rfl⟩
            rw [← hch] at hcutH HSa
            rw [← hcl] at hcutL HSb
            clear hch hcl
            obtain ⟨sa, hsa⟩ : ∃ sa, sa = ss.take c := ⟨_, rfl⟩
            obtain ⟨sb, hsb⟩ : ∃ sb, sb = ss.drop c := ⟨_, rfl⟩
            have hla : sa.length = c := by rw [hsa]; simp; omega
            have hlb : sb.length = ss.length - c := by rw [hsb]; simp
            have htt : tot ss = tot sa + tot sb := by rw [hsa, hsb, ← tot_app, List.take_append_drop]
            rw [← hsa] at HSa
            rw [← hsb] at HSb
            have ZA : Hid (16 * sa.length + tot sa ≤ 1048576) := by show _ ≤ _; have := HZT.out; omega
            have ZB : Hid (16 * sb.length + tot sb ≤ 1048576) := by show _ ≤ _; have := HZT.out; omega
            obtain ⟨TA, hTA⟩ : ∃ TA, TA = sa.length + tot sa := ⟨_, rfl⟩
            obtain ⟨TB, hTB⟩ : ∃ TB, TB = sb.length + tot sb := ⟨_, rfl⟩
            have hsum : U = TA + TB := by have := HT.out; omega
            obtain ⟨nb, hnb⟩ : ∃ nb, nb = ss.length - c := ⟨_, rfl⟩
            have HC9 := hid (fun (wx : World) (h : Rs wx.heap.size wx (.slice (none) ss.length (cap)) ss) => stringList_any _ ss wx h HZT.out)
            have HC9a := hid (fun (wx : World) (h : Rs wx.heap.size wx (.slice ch c (cap)) sa) => stringList_any _ sa wx h ZA.out)
            have HC9b := hid (fun (wx : World) (h : Rs wx.heap.size wx (.slice cl (ss.length - c) ((cap) - c)) sb) => stringList_any _ sb wx h ZB.out)
            rw [← HT.out] at HC9
            rw [← hTA, hla] at HC9a
            rw [← hTB, hlb, ← hnb] at HC9b
            rw [← hnb] at hcutL HSb
            have hb3 : ((nb : Int) == (ss.length : Int) - (c : Int)) = true := by rw [beq_iff_eq]; omega
            have hb5 : ((U : Int) == (TA : Int) + (TB : Int)) = true := by rw [beq_iff_eq]; omega
            have hb7 : ((((1 + TA) + (1 + TB) : Nat) : Int) == (U : Int) + 2) = true := by rw [beq_iff_eq]; omega
            obtain ⟨PW, hPW⟩ : ∃ PW, PW = (1 + TA) + (1 + TB) := ⟨_, rfl⟩
            rw [← hPW] at hb7
            have HPW := hid hPW
            have hTAb : TA ≤ 1048576 := by omega
            have hTBb : TB ≤ 1048576 := by omega
            clear hsa hsb hla hlb htt hTA hTB hsum hnb hPW
            go_wp2_with fail
            refine (HC9.out _ HS.out).mono ?_
            rintro e w3 ⟨⟨al, cpl, rfl, hcpl⟩, hbe3⟩
            have HSa3 := hid (Rv.on HSa.out hbe3)
            have HSb3 := hid (Rv.on HSb.out hbe3)
            have HB3 := hid (below_on HB.out hbe3)
            unfold lv
            clear hbe3
            obtain ⟨w4, hw4, hlb4, hbe4, hlt4⟩ := alloc_lb w3 (.slice al ss.length cpl) U
            have HW4 := hid hw4
            have HSa4 := hid (Rv.on HSa3.out hbe4)
            have HSb4 := hid (Rv.on HSb3.out hbe4)
            have HB4 := hid (below_on HB3.out hbe4)
            have HL4 := hid hlb4
            clear hw4 hlb4 hbe4
            go_wp2_with fail
            rw [← HW4.out]
            refine (HC9a.out _ HSa4.out).mono ?_
            rintro e w5 ⟨⟨aa, cpa, rfl, hcpa⟩, hbe5⟩
            have HSb5 := hid (Rv.on HSb4.out hbe5)
            have HB5 := hid (below_on HB4.out hbe5)
            have HL5 := hid ((hbe5.block _ hlt4).trans HL4.out)
            have hlt5 : w3.heap.size < w5.heap.size := by have := hbe5.size; omega
            unfold lv
            clear hbe5
            obtain ⟨w6, hw6, hlb6, hbe6, hlt6⟩ := alloc_lb w5 (.slice aa c cpa) TA
            have HW6 := hid hw6
            have HSb6 := hid (Rv.on HSb5.out hbe6)
            have HB6 := hid (below_on HB5.out hbe6)
            have HL6 := hid ((hbe6.block _ hlt5).trans HL5.out)
            have HA6 := hid hlb6
            have hlt6l : w3.heap.size < w6.heap.size := by omega
            clear hw6 hlb6 hbe6
            go_wp2_with fail
            rw [← HW6.out]
            refine (HC9b.out _ HSb6.out).mono ?_
            rintro e w7 ⟨⟨ab, cpb, rfl, hcpb⟩, hbe7⟩
            have HB7 := hid (below_on HB6.out hbe7)
            have HL7 := hid ((hbe7.block _ hlt6l).trans HL6.out)
            have HA7 := hid ((hbe7.block _ hlt6).trans HA6.out)
            have hsz7 := hbe7.size
            unfold lv
            clear hbe7
            obtain ⟨w8, hw8, hlb8, hbe8, hlt8⟩ := alloc_lb w7 (.slice ab nb cpb) TB
            have HW8 := hid hw8
            have H8 : Hid (L3 w w8 w3.heap.size w5.heap.size w7.heap.size (.slice al ss.length cpl) (.slice aa c cpa) (.slice ab nb cpb) U TA TB) :=
              ⟨(hbe8.block _ (by omega)).trans HL7.out, (hbe8.block _ (by omega)).trans HA7.out, hlb8, ⟨by omega, by omega, by omega⟩, below_on HB7.out hbe8⟩
            clear hw8 hlb8 hbe8
            obtain ⟨k0, k1, k2⟩ := LB.cells HL7.out
            have hne7 : w3.heap.size < w7.heap.size := by omega
            clear HS HSa HSb HSa3 HSb3 HSa4 HSb4 HSb5 HSb6 HB3 HB4 HB5 HB6 HB7 HL4 HL5 HL6 HL7 HA6 HA7
            go_wp2_with fail
            rw [← HW8.out]
            clear k0 k1 k2
            refine (extent_any al ss.length cpl 0 U w8).mono ?_
            rintro e w9 ⟨rfl, hb9⟩
            have H9 := hid (H8.out.on hb9)
            clear hb9 H8
            obtain ⟨k0, k1, k2⟩ := H9.out.2.1.cells
            go_wp2_with fail
            clear k0 k1 k2
            refine (extent_any aa c cpa 0 TA w9).mono ?_
            rintro e w10 ⟨rfl, hb10⟩
            have H10 := hid (H9.out.on hb10)
            clear hb10 H9
            obtain ⟨k0, k1, k2⟩ := H10.out.2.2.1.cells
            go_wp2_with fail
            clear k0 k1 k2
            refine (extent_any ab nb cpb 0 TB w10).mono ?_
            rintro e w11 ⟨rfl, hb11⟩
            have H11 := hid (H10.out.on hb11)
            clear hb11 H10
            obtain ⟨k0, k1, k2⟩ := H11.out.2.1.cells
            obtain ⟨j0, j1, j2⟩ := H11.out.2.2.1.cells
            go_wp2_with fail
            clear k0 k1 k2 j0 j1 j2
            refine (pair_any 30 30 (lv aa c cpa 0 TA) (lv ab nb cpb 0 TB) (0 + 1) (1 + TA) (0 + 1) (1 + TB) w11 (meas_list _ _ _ _ _ (by omega) (by omega)) (meas_list _ _ _ _ _ (by omega) (by omega)) (by omega) (by omega) (by omega) (by omega)).mono ?_
            rintro e w12 ⟨⟨ap, cpp, rfl, hcpp⟩, hb12⟩
            have H12 := hid (H11.out.on hb12)
            clear hb12 H11
            rw [← HPW.out]
            have emax : max (0 + 1) (0 + 1) = 1 := rfl
            rw [emax]
            clear emax
            go_wp2_with fail
            refine (extent_any ap 2 cpp 1 PW w12).mono ?_
            rintro e w13 ⟨rfl, hb13⟩
            have H13 := hid (H12.out.on hb13)
            clear hb13 H12
            obtain ⟨k0, k1, k2⟩ := H13.out.1.cells
            go_wp2_with fail
            clear k0 k1 k2
            refine (len_any al ss.length cpl 0 U w13).mono ?_
            rintro e w14 ⟨rfl, hb14⟩
            have H14 := hid (H13.out.on hb14)
            clear hb14 H13
            obtain ⟨k0, k1, k2⟩ := H14.out.2.1.cells
            go_wp2_with fail
            clear k0 k1 k2
            refine (len_any aa c cpa 0 TA w14).mono ?_
            rintro e w15 ⟨rfl, hb15⟩
            have H15 := hid (H14.out.on hb15)
            clear hb15 H14
            obtain ⟨k0, k1, k2⟩ := H15.out.2.2.1.cells
            go_wp2_with fail
            clear k0 k1 k2
            refine (len_any ab nb cpb 0 TB w15).mono ?_
            rintro e w16 ⟨rfl, hb16⟩
            have H16 := hid (H15.out.on hb16)
            clear hb16 H15
            go_wp2_with fail
            go_ret
            exact ⟨rfl, H16.out.2.2.2.2⟩
      · go_ret
        exact ⟨rfl, Below.refl _ _⟩
    | some ad =>
      have hsx : ∀ wx, (binOp .neq 22 (.slice (some ad) ss.length cap) (.slice none 0 0)).run Try.prog wx = .ok (.bool true) wx := fun wx => run_neq_slice_nil_any wx 22 9 (some ad) ss.length cap 0 0 Try.underlying22
      clear hnil
      go_enter Try.func5, Try.ntmps5
      go_wp2_with (first
        | (go_at_call 19; refine HBY.out.mono ?_; rintro e w' ⟨⟨β, rfl⟩, hw⟩; have hw2 := hw.symm; clear hw; subst hw2; cases β)
        | (go_at_call 7; refine HSO.out.mono ?_; rintro e w' ⟨⟨β, rfl, hso⟩, hw⟩; have hw2 := hw.symm; clear hw; subst hw2; have hor : (β = false ∧ Hid (16 * ss.length + tot ss ≤ 1048576)) ∨ β = true := (by cases β; exact .inl ⟨rfl, hso rfl⟩; exact .inr rfl); clear hso; rcases hor with ⟨rfl, HSS⟩ | rfl)
        | (go_at_call 8; refine HUT.out.mono ?_; rintro e w' ⟨⟨β, rfl⟩, hw⟩; have hw2 := hw.symm; clear hw; subst hw2; cases β)
        | (at_make; refine wpList_make_full _ rfl (.tmp 39) (.tmp 39) 22 rfl w.heap.size 9 i0 (.string .empty) 1 Try.underlying22 hinf hz0 hz1 .i64 .i64 _ _ ss.length rfl rfl rfl rfl (by rw [hz2]; have := HSS.out; omega) (by unfold maxLen; omega) (Nat.le_refl _) ?_; intro w1 hown hgr; obtain ⟨L, hL, hblk⟩ := own_block hown; have hbel : Below w.heap.size w w1 := (Below.refl _ _).grown hgr (Nat.le_refl _) (by simp); clear hown hgr)
        | (refine wpList_copy_splice rfl (.tmp 41) (.tmp 42) 22 22 rfl 9 Try.underlying22 size9 _ _ _ _ _ _ rfl rfl w.heap.size 0 L 9 hblk (ss.map Value.string) MX.out (fun _ => ⟨rfl, ad, rfl, rs_cells (Rv.below HS0.out hbel)⟩) (by rw [hL]; exact FX.out) (strings_oneCell _) w.heap.size w hbel (Nat.le_refl _) ?_; intro w2 HK hb2; have HW2 := hid hb2; have HL2 := hid hL; clear hblk hbel hb2 hL))
      · go_ret
        exact ⟨rfl, Below.refl _ _⟩
      · go_ret
        exact ⟨rfl, Below.refl _ _⟩
      · skip
        have HS : Hid (Rs w2.heap.size w2 (.slice (some ⟨w.heap.size, 0, none⟩) ss.length ss.length) ss) := copied (by have := HSS.out; omega) HL2.out HK.out
        have HB := HW2
        clear HK HL2

        have HZT := HSS
        have hn : ss.length ≤ 65536 := by have := HZT.out; omega
        clear HSS HBY HSO HUT HS0
        obtain ⟨T, hT⟩ : ∃ T, T = ss.length + tot ss := ⟨_, rfl⟩
        have hTb : T ≤ 1048576 := by have := HZT.out; omega
        have HT := hid hT
        clear hT
        go_loop [6, 7] (fun t i => ∃ k U : Nat, k ≤ ss.length ∧ i = .int .i64 k ∧ t = .int .i64 U ∧ U ≤ 1048576 ∧ Hid (U = ss.length + tot (ss.take k))) (fun _ i => ss.length - (intOf i).toNat)
        case atStart => exact ⟨0, ss.length, Nat.zero_le _, rfl, rfl, by omega, by show _ = _; simp [tot]⟩
        case round =>
          obtain ⟨k, U, hk, rfl, rfl, hU, HU⟩ := hrel
          by_cases hlt : (k : Int) < ss.length
          · have hkn : k < ss.length := by omega
            obtain ⟨aa, cc, e, -, -, -, hc⟩ := HS.out.parts
            simp only [Value.slice.injEq] at e
            obtain ⟨e1, -, -⟩ := e
            obtain ⟨b, off, e2, hlb, hx⟩ := hc k hkn
            rw [e2] at e1
            clear hc
            have ht := tot_take ss k hkn
            have hle := tot_take_le ss (k + 1)
            have HU2 : Hid (U + (ss.getD k .empty).size = ss.length + tot (ss.take (k + 1))) := by
              show _ = _
              rw [ht, HU.out]; omega
            have hub : U + (ss.getD k .empty).size ≤ 1048576 := by have := HU2.out; have := HZT.out; omega
            obtain ⟨s, hse⟩ : ∃ s, s = ss.getD k .empty := ⟨_, rfl⟩
            rw [← hse] at hx HU2 hub
            clear ht hse hle
            simp only [Option.some.injEq, Addr.mk.injEq] at e1
            obtain ⟨rfl, rfl, -⟩ := e1
            rw [Nat.zero_add] at hx
            clear e2
            go_wp2
            refine ⟨⟨k + 1, U + s.size, by omega, by go_num, by go_num, by omega, HU2⟩, ?_⟩
            simp [intOf]; omega
          · have hke : k = ss.length := by omega
            subst hke
            have hUT : U = T := by
              have := HU.out
              rw [List.take_length] at this
              rw [HT.out]; exact this
            subst hUT
            clear HU hU hk hlt
            have hcutH := fun wx => run_cut_h wx (some ⟨w.heap.size, 0, none⟩) ss.length (ss.length) c (c : Int) rfl (by omega)
            have hcutL := fun wx => run_cut_l wx (some ⟨w.heap.size, 0, none⟩) ss.length (ss.length) c (c : Int) rfl (by omega)
            have HSa : Hid (Rs w2.heap.size w2 (.slice (cutAt (some ⟨w.heap.size, 0, none⟩) (ss.length) 0) c (ss.length)) (ss.take c)) := by
              have := rv_cutAt HS.out 0 c (by omega) (by simp; omega)
              rw [Nat.sub_zero, Nat.sub_zero, List.drop_zero] at this
              show Rv _ _ _ _
              rw [List.map_take]
              exact this
            have HSb : Hid (Rs w2.heap.size w2 (.slice (cutAt (some ⟨w.heap.size, 0, none⟩) (ss.length) c) (ss.length - c) ((ss.length) - c)) (ss.drop c)) := by
              have := rv_cutAt HS.out c ss.length (by omega) (by simp)
              have e : ((ss.map Value.string).take ss.length).drop c = (ss.drop c).map Value.string := by
                rw [List.take_of_length_le (by simp), List.map_drop]
              rw [e] at this
              exact this
            obtain ⟨ch, hch⟩ : ∃ ch, ch = cutAt (some ⟨w.heap.size, 0, none⟩) (ss.length) 0 := ⟨_, rfl⟩
            obtain ⟨cl, hcl⟩ : ∃ cl, cl = cutAt (some ⟨w.heap.size, 0, none⟩) (ss.length) c := ⟨_, rfl⟩
            rw [← hch] at hcutH HSa
            rw [← hcl] at hcutL HSb
            clear hch hcl
            obtain ⟨sa, hsa⟩ : ∃ sa, sa = ss.take c := ⟨_, rfl⟩
            obtain ⟨sb, hsb⟩ : ∃ sb, sb = ss.drop c := ⟨_, rfl⟩
            have hla : sa.length = c := by rw [hsa]; simp; omega
            have hlb : sb.length = ss.length - c := by rw [hsb]; simp
            have htt : tot ss = tot sa + tot sb := by rw [hsa, hsb, ← tot_app, List.take_append_drop]
            rw [← hsa] at HSa
            rw [← hsb] at HSb
            have ZA : Hid (16 * sa.length + tot sa ≤ 1048576) := by show _ ≤ _; have := HZT.out; omega
            have ZB : Hid (16 * sb.length + tot sb ≤ 1048576) := by show _ ≤ _; have := HZT.out; omega
            obtain ⟨TA, hTA⟩ : ∃ TA, TA = sa.length + tot sa := ⟨_, rfl⟩
            obtain ⟨TB, hTB⟩ : ∃ TB, TB = sb.length + tot sb := ⟨_, rfl⟩
            have hsum : U = TA + TB := by have := HT.out; omega
            obtain ⟨nb, hnb⟩ : ∃ nb, nb = ss.length - c := ⟨_, rfl⟩
            have HC9 := hid (fun (wx : World) (h : Rs wx.heap.size wx (.slice (some ⟨w.heap.size, 0, none⟩) ss.length (ss.length)) ss) => stringList_any _ ss wx h HZT.out)
            have HC9a := hid (fun (wx : World) (h : Rs wx.heap.size wx (.slice ch c (ss.length)) sa) => stringList_any _ sa wx h ZA.out)
            have HC9b := hid (fun (wx : World) (h : Rs wx.heap.size wx (.slice cl (ss.length - c) ((ss.length) - c)) sb) => stringList_any _ sb wx h ZB.out)
            rw [← HT.out] at HC9
            rw [← hTA, hla] at HC9a
            rw [← hTB, hlb, ← hnb] at HC9b
            rw [← hnb] at hcutL HSb
            have hb3 : ((nb : Int) == (ss.length : Int) - (c : Int)) = true := by rw [beq_iff_eq]; omega
            have hb5 : ((U : Int) == (TA : Int) + (TB : Int)) = true := by rw [beq_iff_eq]; omega
            have hb7 : ((((1 + TA) + (1 + TB) : Nat) : Int) == (U : Int) + 2) = true := by rw [beq_iff_eq]; omega
            obtain ⟨PW, hPW⟩ : ∃ PW, PW = (1 + TA) + (1 + TB) := ⟨_, rfl⟩
            rw [← hPW] at hb7
            have HPW := hid hPW
            have hTAb : TA ≤ 1048576 := by omega
            have hTBb : TB ≤ 1048576 := by omega
            clear hsa hsb hla hlb htt hTA hTB hsum hnb hPW
            go_wp2_with fail
            refine (HC9.out _ HS.out).mono ?_
            rintro e w3 ⟨⟨al, cpl, rfl, hcpl⟩, hbe3⟩
            have HSa3 := hid (Rv.on HSa.out hbe3)
            have HSb3 := hid (Rv.on HSb.out hbe3)
            have HB3 := hid (below_on HB.out hbe3)
            unfold lv
            clear hbe3
            obtain ⟨w4, hw4, hlb4, hbe4, hlt4⟩ := alloc_lb w3 (.slice al ss.length cpl) U
            have HW4 := hid hw4
            have HSa4 := hid (Rv.on HSa3.out hbe4)
            have HSb4 := hid (Rv.on HSb3.out hbe4)
            have HB4 := hid (below_on HB3.out hbe4)
            have HL4 := hid hlb4
            clear hw4 hlb4 hbe4
            go_wp2_with fail
            rw [← HW4.out]
            refine (HC9a.out _ HSa4.out).mono ?_
            rintro e w5 ⟨⟨aa, cpa, rfl, hcpa⟩, hbe5⟩
            have HSb5 := hid (Rv.on HSb4.out hbe5)
            have HB5 := hid (below_on HB4.out hbe5)
            have HL5 := hid ((hbe5.block _ hlt4).trans HL4.out)
            have hlt5 : w3.heap.size < w5.heap.size := by have := hbe5.size; omega
            unfold lv
            clear hbe5
            obtain ⟨w6, hw6, hlb6, hbe6, hlt6⟩ := alloc_lb w5 (.slice aa c cpa) TA
            have HW6 := hid hw6
            have HSb6 := hid (Rv.on HSb5.out hbe6)
            have HB6 := hid (below_on HB5.out hbe6)
            have HL6 := hid ((hbe6.block _ hlt5).trans HL5.out)
            have HA6 := hid hlb6
            have hlt6l : w3.heap.size < w6.heap.size := by omega
            clear hw6 hlb6 hbe6
            go_wp2_with fail
            rw [← HW6.out]
            refine (HC9b.out _ HSb6.out).mono ?_
            rintro e w7 ⟨⟨ab, cpb, rfl, hcpb⟩, hbe7⟩
            have HB7 := hid (below_on HB6.out hbe7)
            have HL7 := hid ((hbe7.block _ hlt6l).trans HL6.out)
            have HA7 := hid ((hbe7.block _ hlt6).trans HA6.out)
            have hsz7 := hbe7.size
            unfold lv
            clear hbe7
            obtain ⟨w8, hw8, hlb8, hbe8, hlt8⟩ := alloc_lb w7 (.slice ab nb cpb) TB
            have HW8 := hid hw8
            have H8 : Hid (L3 w w8 w3.heap.size w5.heap.size w7.heap.size (.slice al ss.length cpl) (.slice aa c cpa) (.slice ab nb cpb) U TA TB) :=
              ⟨(hbe8.block _ (by omega)).trans HL7.out, (hbe8.block _ (by omega)).trans HA7.out, hlb8, ⟨by omega, by omega, by omega⟩, below_on HB7.out hbe8⟩
            clear hw8 hlb8 hbe8
            obtain ⟨k0, k1, k2⟩ := LB.cells HL7.out
            have hne7 : w3.heap.size < w7.heap.size := by omega
            clear HS HSa HSb HSa3 HSb3 HSa4 HSb4 HSb5 HSb6 HB3 HB4 HB5 HB6 HB7 HL4 HL5 HL6 HL7 HA6 HA7
            go_wp2_with fail
            rw [← HW8.out]
            clear k0 k1 k2
            refine (extent_any al ss.length cpl 0 U w8).mono ?_
            rintro e w9 ⟨rfl, hb9⟩
            have H9 := hid (H8.out.on hb9)
            clear hb9 H8
            obtain ⟨k0, k1, k2⟩ := H9.out.2.1.cells
            go_wp2_with fail
            clear k0 k1 k2
            refine (extent_any aa c cpa 0 TA w9).mono ?_
            rintro e w10 ⟨rfl, hb10⟩
            have H10 := hid (H9.out.on hb10)
            clear hb10 H9
            obtain ⟨k0, k1, k2⟩ := H10.out.2.2.1.cells
            go_wp2_with fail
            clear k0 k1 k2
            refine (extent_any ab nb cpb 0 TB w10).mono ?_
            rintro e w11 ⟨rfl, hb11⟩
            have H11 := hid (H10.out.on hb11)
            clear hb11 H10
            obtain ⟨k0, k1, k2⟩ := H11.out.2.1.cells
            obtain ⟨j0, j1, j2⟩ := H11.out.2.2.1.cells
            go_wp2_with fail
            clear k0 k1 k2 j0 j1 j2
            refine (pair_any 30 30 (lv aa c cpa 0 TA) (lv ab nb cpb 0 TB) (0 + 1) (1 + TA) (0 + 1) (1 + TB) w11 (meas_list _ _ _ _ _ (by omega) (by omega)) (meas_list _ _ _ _ _ (by omega) (by omega)) (by omega) (by omega) (by omega) (by omega)).mono ?_
            rintro e w12 ⟨⟨ap, cpp, rfl, hcpp⟩, hb12⟩
            have H12 := hid (H11.out.on hb12)
            clear hb12 H11
            rw [← HPW.out]
            have emax : max (0 + 1) (0 + 1) = 1 := rfl
            rw [emax]
            clear emax
            go_wp2_with fail
            refine (extent_any ap 2 cpp 1 PW w12).mono ?_
            rintro e w13 ⟨rfl, hb13⟩
            have H13 := hid (H12.out.on hb13)
            clear hb13 H12
            obtain ⟨k0, k1, k2⟩ := H13.out.1.cells
            go_wp2_with fail
            clear k0 k1 k2
            refine (len_any al ss.length cpl 0 U w13).mono ?_
            rintro e w14 ⟨rfl, hb14⟩
            have H14 := hid (H13.out.on hb14)
            clear hb14 H13
            obtain ⟨k0, k1, k2⟩ := H14.out.2.1.cells
            go_wp2_with fail
            clear k0 k1 k2
            refine (len_any aa c cpa 0 TA w14).mono ?_
            rintro e w15 ⟨rfl, hb15⟩
            have H15 := hid (H14.out.on hb15)
            clear hb15 H14
            obtain ⟨k0, k1, k2⟩ := H15.out.2.2.1.cells
            go_wp2_with fail
            clear k0 k1 k2
            refine (len_any ab nb cpb 0 TB w15).mono ?_
            rintro e w16 ⟨rfl, hb16⟩
            have H16 := hid (H15.out.on hb16)
            clear hb16 H15
            go_wp2_with fail
            go_ret
            exact ⟨rfl, H16.out.2.2.2.2⟩
      · go_ret
        exact ⟨rfl, Below.refl _ _⟩
  · by_cases hx0 : 0 ≤ x
    · have hxn : (ss.length : Int) < x := by omega
      go_enter Try.func5, Try.ntmps5
      go_wp2_with (first
        | (go_at_call 19; refine HBY.out.mono ?_; rintro e w' ⟨⟨β, rfl⟩, hw⟩; have hw2 := hw.symm; clear hw; subst hw2; cases β)
        | (go_at_call 7; refine HSO.out.mono ?_; rintro e w' ⟨⟨β, rfl, hso⟩, hw⟩; have hw2 := hw.symm; clear hw; subst hw2; clear hso; cases β))
      all_goals go_ret
      all_goals exact ⟨rfl, Below.refl _ _⟩
    · have hxn : x < 0 := by omega
      go_enter Try.func5, Try.ntmps5
      go_wp2_with (first
        | (go_at_call 19; refine HBY.out.mono ?_; rintro e w' ⟨⟨β, rfl⟩, hw⟩; have hw2 := hw.symm; clear hw; subst hw2; cases β)
        | (go_at_call 7; refine HSO.out.mono ?_; rintro e w' ⟨⟨β, rfl, hso⟩, hw⟩; have hw2 := hw.symm; clear hw; subst hw2; clear hso; cases β))
      all_goals go_ret
      all_goals exact ⟨rfl, Below.refl _ _⟩
end Go.Proofs.Qxb6609148a
