import Derived.Test.Qxb6608909aDoorZm
namespace Go.Proofs.Qxb6608909aDoor
open Go.RowKit Go.Joins

set_option maxHeartbeats 1000000 in
theorem zzAq_any (B : Nat) (v lv : Value) (xs line : List Int) (i : Nat) (w : World) (hbuf : Buf B w v xs) (hlv : Rd B w lv line) (hi : i < line.length) (hby : Byt line) (hB : B ≤ w.heap.size) (hlim : xs.length + line.length + 8 ≤ 140737488355328) :
    Calls Tryd.prog 16 #[v, lv, .int .i64 i] w fun e w' => ∃ v', e = .returned (.tuple #[v', .int .i64 (i + 1 + (aq (line.getD i 0) (line.drop (i + 1))).2.1 : Nat), .bool (aq (line.getD i 0) (line.drop (i + 1))).2.2]) ∧ WInv B w v xs w' v' (aq (line.getD i 0) (line.drop (i + 1))).1 := by
  have HP := hid (aqGo_any B v lv xs line i w hbuf hlv hi hby hB hlim)
  obtain ⟨R, hR⟩ : ∃ R, R = aq (line.getD i 0) (line.drop (i + 1)) := ⟨_, rfl⟩
  rw [← hR] at HP ⊢
  clear hR hbuf hlv hby
  go_enter Tryd.func16, Tryd.ntmps16
  go_wp2_with (go_at_call 31; refine HP.out.mono ?_; rintro e w1 ⟨v1, rfl, hi1⟩; have HI := hid hi1; clear hi1)
  go_ret3
  exact ⟨_, rfl, HI.out⟩

theorem Buf.rd {B : Nat} {w : World} {v : Value} {xs : List Int} (h : Buf B w v xs) (hB : B ≤ w.heap.size) (hl : xs.length ≤ 140737488355328) : Rd w.heap.size w v xs := by
  rcases h with h | ⟨ao, -, h⟩
  · exact h.rd hl
  · exact h.mono hB

/-- the slice that is asked against nil -/
theorem rd_eql_nil {B : Nat} {w : World} {v : Value} {xs : List Int} (h : Rd B w v xs) (β : Bool) (hβ : v = .slice none 0 0 ↔ β = true) : ∀ wx, (binOp .eql 22 v (.slice none 0 0)).run Tryd.prog wx = .ok (.bool β) wx := by
  obtain ⟨ao, cap, rfl, hl, hm, hn, -⟩ := h
  intro wx
  rw [Lib.run_eql_slice_nil wx 22 5 ao xs.length cap 0 0 Tryd.underlying22]
  congr 2
  cases ao with
  | none =>
    have h1 := hn rfl
    have : β = true := hβ.1 (by rw [h1]; congr 1; omega)
    rw [this]; rfl
  | some a =>
    have : β = false := by
      cases β
      · rfl
      · have := hβ.2 rfl; simp at this
    rw [this]; rfl

set_option maxHeartbeats 1000000 in
theorem zzBytesM_any (B B' : Nat) (v lv : Value) (xs line : List Int) (i : Int) (w : World) (hv : Rd B w v xs) (hlv : Rd B' w lv line) :
    Calls Tryd.prog 14 #[v, lv, .int .i64 i] w fun e w' => IsB e ∧ w' = w := by
  obtain ⟨ao, cap, rfl, hl, hm, -, -⟩ := hv
  obtain ⟨ao2, cap2, rfl, hl2, hm2, -, -⟩ := hlv
  go_enter Tryd.func14, Tryd.ntmps14
  go_wp2
  all_goals go_ret
  all_goals exact ⟨⟨_, rfl⟩, rfl⟩

theorem aq_lenF (q : Int) : ∀ (f : Nat) (l : List Int), (aqF q f l).1.length ≤ l.length
  | 0, l => by simp [aqF]
  | f + 1, [] => by simp [aqF]
  | f + 1, c :: r => by
    simp only [aqF]
    split
    · simp
    · have hp := aqStep_pos q (c :: r)
      have := aq_lenF q f ((c :: r).drop (aqStep q (c :: r)).2)
      simp at this ⊢
      omega
theorem aq_len (q : Int) (line : List Int) (k : Nat) : (aq q (line.drop k)).1.length ≤ line.length := by
  have := aq_lenF q (line.drop k).length (line.drop k)
  unfold aq
  simp at this ⊢
  omega

theorem nil_iff5 {a3 a4 : Option Addr} {n : Nat} {A : List Int} (h : a4 = none ↔ Value.slice a3 n n = .slice none 0 0) : (Value.slice a4 n n = .slice none 0 0 ∧ A = []) ↔ (a3 = none ∧ n = 0 ∧ A = []) := by
  constructor
  · rintro ⟨h1, h2⟩
    simp only [Value.slice.injEq] at h1
    obtain ⟨h3, h4, -⟩ := h1
    have := h.1 h3
    simp only [Value.slice.injEq] at this
    exact ⟨this.1, h4, h2⟩
  · rintro ⟨h1, h2, h3⟩
    have := h.2 (by rw [h1, h2])
    exact ⟨by rw [this, h2], h3⟩
theorem nil_iff6 {a3 : Option Addr} {n : Nat} {A : List Int} : (Value.slice a3 n n = .slice none 0 0 ∧ A = []) ↔ (a3 = none ∧ n = 0 ∧ A = []) := by
  simp only [Value.slice.injEq]
  constructor
  · rintro ⟨⟨h1, h2, -⟩, h3⟩; exact ⟨h1, h2, h3⟩
  · rintro ⟨h1, h2, h3⟩; exact ⟨⟨h1, h2, h2⟩, h3⟩

set_option maxHeartbeats 4000000 in
set_option maxRecDepth 100000 in
theorem walkM (v lv : Value) (xs line : List Int) (i : Int) (w : World) (hv : Rd w.heap.size w v xs) (hlv : Rd w.heap.size w lv line) (hby : Byt line) (hi64 : -9223372036854775808 ≤ i ∧ i ≤ 9223372036854775807) :
    Calls Tryd.prog 4 #[v, lv, .int .i64 i] w fun e w' => e = .returned (.bool true) ∧ Below w.heap.size w w' := by
  have HV := hid hv
  have HL := hid hlv
  have HY := hid hby
  clear hby
  have HBY := hid (zzBytesM_any _ _ v lv xs line i w hv hlv)
  obtain ⟨ao, cap, rfl, hl, hm, -, -⟩ := hv
  by_cases hir : 0 ≤ i ∧ i < line.length
  · obtain ⟨n, rfl⟩ : ∃ n : Nat, i = n := ⟨i.toNat, by omega⟩
    obtain ⟨b, off, cap2, rfl, hl2, hm2, hbB, hc⟩ := hlv.cells (by omega)
    have hir2 : (n : Int) < line.length := hir.2
    have hs : ∀ wx, (binOp .neq 22 (.slice (some ⟨b, off, none⟩) line.length cap2) (.slice none 0 0)).run Tryd.prog wx = .ok (.bool true) wx := fun wx => run_neq_slice_nil_any wx 22 5 (some ⟨b, off, none⟩) line.length cap2 0 0 Tryd.underlying22
    obtain ⟨i0, hinf, hz0, hz1, hz2⟩ := info_parts info5
    obtain ⟨cs, hcs⟩ : ∃ cs, cs = line.map (Value.int .u8) := ⟨_, rfl⟩
    have HSRC : Hid (∀ (w1 : World), Below w.heap.size w w1 → ∀ j u, cs[j]? = some u → w1.cell? ((⟨b, off, none⟩ : Addr).add j) = some u) := by
      intro w1 hb1 j u hj
      rw [hcs] at hj
      exact cells_rd (HL.out.below hb1) j u hj
    have hlen : cs.length = line.length := by rw [hcs]; simp
    have HCS := hid hcs
    have HONE : Hid (∀ u ∈ cs, u.oneCell' = true) := by rw [hcs]; exact ints_oneCell _ _
    clear hcs hc hir
    go_enter Tryd.func4, Tryd.ntmps4
    go_wp2_with (first
      | (go_at_call 14; refine HBY.out.mono ?_; rintro e w' ⟨⟨β, rfl⟩, hw⟩; have hw2 := hw.symm; clear hw; subst hw2; cases β)
      | (at_make; refine wpList_make_full _ rfl (.tmp 44) (.tmp 44) 22 rfl w.heap.size 5 i0 (.int .u8 0) 1 Tryd.underlying22 hinf hz0 hz1 .i64 .i64 _ _ line.length rfl rfl rfl rfl (by rw [hz2]; omega) (by unfold maxLen; omega) (Nat.le_refl _) ?_; intro w1 hown hgr; obtain ⟨L, hL, hblk⟩ := own_block hown; have hbel : Below w.heap.size w w1 := (Below.refl _ _).grown hgr (Nat.le_refl _) (by simp); clear hown hgr)
      | (refine wpList_copy_splice rfl (.tmp 46) (.tmp 47) 22 22 rfl 5 Tryd.underlying22 size5 _ _ _ _ _ _ rfl rfl w.heap.size 0 L 5 hblk cs (by simp; omega) (fun _ => ⟨rfl, ⟨b, off, none⟩, rfl, HSRC.out _ hbel⟩) (by omega) HONE.out w.heap.size w hbel (Nat.le_refl _) ?_; intro w2 HB hb2; clear hblk hbel))
    all_goals try (go_ret; exact ⟨rfl, Below.refl _ _⟩)
    have hsz : (xs.length : Int) + line.length ≤ 1048576 := by assumption
    have hr2 : Rd w2.heap.size w2 (.slice (some ⟨w.heap.size, 0, none⟩) line.length line.length) line := by
      have hh := HB.out
      rw [splice_all L cs (by omega), HCS.out] at hh
      exact Rd_own (ownsRow_of_block (Nat.le_refl _) (by simp) (by unfold maxLen; omega) hh) (by omega)
    have HL2 := hid hr2
    have HB2 := hid hb2
    clear hr2 hb2 HB HSRC HONE HBY HCS
    refine (zzClone_full _ _ xs w2 (HV.out.on HB2.out)).mono ?_
    rintro e w3 ⟨a3, rfl, ho3, hb3, hn3⟩
    have HR3 := hid (ho3.rd (by omega))
    have HL3 := hid (HL2.out.on hb3)
    have HB3 := hid (below_on HB2.out hb3)
    clear ho3 hb3 hn3
    go_wp2_with fail
    refine (zzClone_full _ _ xs w3 HR3.out).mono ?_
    rintro e w4 ⟨a4, rfl, ho4, hb4, hn4⟩
    have HR4 := hid (ho4.rd (by omega))
    have HR3b := hid (HR3.out.on hb4)
    have HL4 := hid (HL3.out.on hb4)
    have HB4 := hid (below_on HB3.out hb4)
    have HN4 := hid hn4
    clear ho4 hb4 hn4
    go_wp2_with fail
    refine (zmGo_any w4.heap.size _ _ xs line n w4 (Own.buf HR4.out) HL4.out (by omega) HY.out (Nat.le_refl _) (by omega)).mono ?_
    rintro e w5 ⟨v5, rfl, hi5⟩
    rw [zm_aq _ line.length _ (by simp)] at hi5 ⊢
    obtain ⟨R, hR⟩ : ∃ R, R = aq (line.getD n 0) (line.drop (n + 1)) := ⟨_, rfl⟩
    have HR := hid hR
    rw [← hR] at hi5 ⊢
    clear hR
    have HI5 := hid hi5
    have HR3c := hid (HR3b.out.on hi5.bel)
    have HL5 := hid (HL4.out.on hi5.bel)
    have HB5 := hid (below_on HB4.out hi5.bel)
    clear hi5
    go_wp2_with fail
    refine (zzAq_any w5.heap.size _ _ xs line n w5 (Own.buf HR3c.out) HL5.out (by omega) HY.out (Nat.le_refl _) (by omega)).mono ?_
    rintro e w6 ⟨v6, rfl, hi6⟩
    rw [← HR.out] at hi6 ⊢
    have hRl : R.1.length ≤ line.length := by rw [HR.out]; exact aq_len _ _ _
    have h5 := (HI5.out.buf.rd HI5.out.bel.size (by simp; omega)).on hi6.bel
    have h6 := hi6.buf.rd hi6.bel.size (by simp; omega)
    obtain ⟨Y, hY⟩ : ∃ Y, Y = xs ++ R.1 := ⟨_, rfl⟩
    rw [← hY] at h5 h6
    clear hY
    have e5 := rd_eql_nil h5 (decide (a3 = none ∧ xs.length = 0 ∧ R.1 = [])) (by rw [HI5.out.nil, decide_eq_true_iff]; exact nil_iff5 HN4.out)
    have e6 := rd_eql_nil h6 (decide (a3 = none ∧ xs.length = 0 ∧ R.1 = [])) (by rw [hi6.nil, decide_eq_true_iff]; exact nil_iff6)
    obtain ⟨β, hβ⟩ : ∃ β, β = decide (a3 = none ∧ xs.length = 0 ∧ R.1 = []) := ⟨_, rfl⟩
    rw [← hβ] at e5 e6
    have H5 := hid h5
    have H6 := hid h6
    have HB6 := hid (below_on HB5.out hi6.bel)
    obtain ⟨ao5, c5, rfl, -⟩ := h5
    obtain ⟨ao6, c6, rfl, -⟩ := h6
    clear hβ hi6
    go_wp2_with (go_at_call 12; refine (zzEq_same _ _ _ _ Y w6 H6.out H5.out).mono ?_; rintro e w7 ⟨rfl, n7, hw7⟩)
    go_ret
    refine ⟨rfl, ?_⟩
    exact below_drewN HB6.out _
  · obtain ⟨ao2, cap2, rfl, hl2, hm2, -, -⟩ := hlv
    have hout : i < 0 ∨ (line.length : Int) ≤ i := by omega
    clear hir
    rcases hout with ho | ho
    · go_enter Tryd.func4, Tryd.ntmps4
      go_wp2_with (first
        | (go_at_call 14; refine HBY.out.mono ?_; rintro e w' ⟨⟨β, rfl⟩, hw⟩; have hw2 := hw.symm; clear hw; subst hw2; cases β))
      all_goals go_ret
      all_goals exact ⟨rfl, Below.refl _ _⟩
    · go_enter Tryd.func4, Tryd.ntmps4
      go_wp2_with (first
        | (go_at_call 14; refine HBY.out.mono ?_; rintro e w' ⟨⟨β, rfl⟩, hw⟩; have hw2 := hw.symm; clear hw; subst hw2; cases β))
      all_goals go_ret
      all_goals exact ⟨rfl, Below.refl _ _⟩
end Go.Proofs.Qxb6608909aDoor
