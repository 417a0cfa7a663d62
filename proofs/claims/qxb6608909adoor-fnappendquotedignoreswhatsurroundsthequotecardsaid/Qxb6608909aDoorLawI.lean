import Derived.Test.Qxb6608909aDoorLawM
import Derived.Test.Qxb6608909aDoorQuoLaw
import Derived.Test.Qxb6608909aDoorCut
namespace Go.Proofs.Qxb6608909aDoor
open Go.RowKit Go.Joins

set_option maxHeartbeats 1000000 in
theorem zzBytesI_any (B1 B2 B3 B4 : Nat) (vw vp vl vt : Value) (word pre line tail : List Int) (i : Int) (w : World) (hw : Rd B1 w vw word) (hp : Rd B2 w vp pre) (hl : Rd B3 w vl line) (ht : Rd B4 w vt tail) :
    Calls Tryd.prog 17 #[vw, vp, vl, vt, .int .i64 i] w fun e w' => IsB e ∧ w' = w := by
  obtain ⟨ao, cap, rfl, hl1, hm1, -, -⟩ := hw
  obtain ⟨ao2, cap2, rfl, hl2, hm2, -, -⟩ := hp
  obtain ⟨ao3, cap3, rfl, hl3, hm3, -, -⟩ := hl
  obtain ⟨ao4, cap4, rfl, hl4, hm4, -, -⟩ := ht
  go_enter Tryd.func17, Tryd.ntmps17
  go_wp2
  all_goals go_ret
  all_goals exact ⟨⟨_, rfl⟩, rfl⟩

theorem aq_takeF (q : Int) : ∀ (f : Nat) (l : List Int), (aqF q f l).2.1 ≤ l.length
  | 0, l => by simp [aqF]
  | f + 1, [] => by simp [aqF]
  | f + 1, c :: r => by
    simp only [aqF]
    split
    · simp
    · have hle := aqStep_le q c r
      have := aq_takeF q f ((c :: r).drop (aqStep q (c :: r)).2)
      simp only [List.length_drop] at this
      show (aqStep q (c :: r)).2 + _ ≤ _
      omega

theorem full_at {pre line tail : List Int} {n : Nat} (h : n < line.length) : (pre ++ (line ++ tail)).getD (n + pre.length) 0 = line.getD n 0 := by
  rw [Nat.add_comm n, getD_app_right, getD_app_left h]
theorem full_drop {pre line tail : List Int} {n : Nat} (h : n < line.length) : (pre ++ (line ++ tail)).drop (n + pre.length + 1) = line.drop (n + 1) ++ tail := by
  rw [show n + pre.length + 1 = pre.length + (n + 1) by omega, ← List.drop_drop, List.drop_left, List.drop_append_of_le_length (by omega)]
theorem byt_app {a b : List Int} (ha : Byt a) (hb : Byt b) : Byt (a ++ b) := by
  intro k hk
  by_cases h : k < a.length
  · rw [getD_app_left h]; exact ha k h
  · have e : k = a.length + (k - a.length) := by omega
    rw [e, getD_app_right]
    exact hb _ (by simp at hk; omega)

/-- the index of the next quote, or the end -/
def EndAt (q : Int) (line : List Int) (i e : Nat) : Prop := i + 1 ≤ e ∧ e ≤ line.length ∧ (∀ j, i + 1 ≤ j → j < e → line.getD j 0 ≠ q) ∧ (e < line.length → line.getD e 0 = q)

set_option maxHeartbeats 40000000 in
set_option maxRecDepth 100000 in
theorem walkI (vw vp vl vt : Value) (word pre line tail : List Int) (i : Int) (w : World) (hw : Rd w.heap.size w vw word) (hp : Rd w.heap.size w vp pre) (hlv : Rd w.heap.size w vl line) (ht : Rd w.heap.size w vt tail)
    (byp : Byt pre) (byl : Byt line) (byt : Byt tail) (hi64 : -9223372036854775808 ≤ i ∧ i ≤ 9223372036854775807) :
    Calls Tryd.prog 5 #[vw, vp, vl, vt, .int .i64 i] w fun e w' => e = .returned (.bool true) ∧ Below w.heap.size w w' := by
  have HW := hid hw
  have HP := hid hp
  have HL := hid hlv
  have HT := hid ht
  have HY := hid byl
  have HYF : Hid (Byt (pre ++ (line ++ tail))) := byt_app byp (byt_app byl byt)
  have HBY := hid (zzBytesI_any _ _ _ _ vw vp vl vt word pre line tail i w hw hp hlv ht)
  clear byp byl byt
  obtain ⟨aw, cw, rfl, hlw, hmw, -, -⟩ := hw
  obtain ⟨ap, cp, rfl, hlp, hmp, -, -⟩ := hp
  obtain ⟨at', ct, rfl, hlt, hmt, -, -⟩ := ht
  by_cases hir : 0 ≤ i ∧ i < line.length
  · obtain ⟨n, rfl⟩ : ∃ n : Nat, i = n := ⟨i.toNat, by omega⟩
    obtain ⟨b, off, cap2, rfl, hl2, hm2, hbB, hc⟩ := hlv.cells (by omega)
    have hir2 : (n : Int) < line.length := hir.2
    have ci := hc n (by omega)
    obtain ⟨q, hq⟩ : ∃ q, q = line.getD n 0 := ⟨_, rfl⟩
    have HQ := hid hq
    rw [← hq] at ci
    clear hc hir hq
    by_cases hqq : q = 34 ∨ q = 39
    · have hs : ∀ wx, (binOp .neq 22 (.slice (some ⟨b, off, none⟩) line.length cap2) (.slice none 0 0)).run Tryd.prog wx = .ok (.bool true) wx := fun wx => run_neq_slice_nil_any wx 22 5 (some ⟨b, off, none⟩) line.length cap2 0 0 Tryd.underlying22
      obtain ⟨i0, hinf, hz0, hz1, hz2⟩ := info_parts info5
      obtain ⟨cs, hcs⟩ : ∃ cs, cs = line.map (Value.int .u8) := ⟨_, rfl⟩
      have HSRC : Hid (∀ (w1 : World), Below w.heap.size w w1 → ∀ j u, cs[j]? = some u → w1.cell? ((⟨b, off, none⟩ : Addr).add j) = some u) := by
        intro w1 hb1 j u hj
        rw [hcs] at hj
        exact cells_rd (HL.out.below hb1) j u hj
      have hlen : cs.length = line.length := by rw [hcs]; simp
      have HCS := hid hcs
      have HONE : Hid (∀ u ∈ cs, u.oneCell' = true) := by rw [hcs]; exact ints_oneCell _ _
      clear hcs
      have h34 : ((q != 34) = false) ∨ ((q != 34) = true ∧ (q != 39) = false) := by rcases hqq with h | h <;> simp [h]
      have HQQ := hid hqq
      clear hqq
      rcases h34 with h34 | ⟨h34, h39⟩
      all_goals
        go_enter Tryd.func5, Tryd.ntmps5
        go_wp2_with (first
          | (go_at_call 17; refine HBY.out.mono ?_; rintro e w' ⟨⟨β, rfl⟩, hw⟩; have hw2 := hw.symm; clear hw; subst hw2; cases β)
          | (at_make; refine wpList_make_full _ rfl (.tmp 86) (.tmp 86) 22 rfl w.heap.size 5 i0 (.int .u8 0) 1 Tryd.underlying22 hinf hz0 hz1 .i64 .i64 _ _ line.length rfl rfl rfl rfl (by rw [hz2]; omega) (by unfold maxLen; omega) (Nat.le_refl _) ?_; intro w1 hown hgr; obtain ⟨L, hL, hblk⟩ := own_block hown; have hbel : Below w.heap.size w w1 := (Below.refl _ _).grown hgr (Nat.le_refl _) (by simp); clear hown hgr)
          | (refine wpList_copy_splice rfl (.tmp 88) (.tmp 89) 22 22 rfl 5 Tryd.underlying22 size5 _ _ _ _ _ _ rfl rfl w.heap.size 0 L 5 hblk cs (by simp; omega) (fun _ => ⟨rfl, ⟨b, off, none⟩, rfl, HSRC.out _ hbel⟩) (by omega) HONE.out w.heap.size w hbel (Nat.le_refl _) ?_; intro w2 HB hb2; clear hblk hbel))
        all_goals try (go_ret; exact ⟨rfl, Below.refl _ _⟩)

        have hsz : (word.length : Int) + pre.length + line.length + tail.length ≤ 1048576 := by assumption
        have hr2 : Rd w2.heap.size w2 (.slice (some ⟨w.heap.size, 0, none⟩) line.length line.length) line := by
          have hh := HB.out
          rw [splice_all L cs (by omega), HCS.out] at hh
          exact Rd_own (ownsRow_of_block (Nat.le_refl _) (by simp) (by unfold maxLen; omega) hh) (by omega)
        have HL2 := hid hr2
        have HB2 := hid hb2
        clear hr2 hb2 HB HSRC HONE HBY HCS ci
        refine (zzClone_full _ _ word w2 (HW.out.on HB2.out)).mono ?_
        rintro e w3 ⟨a3, rfl, ho3, hb3, hn3⟩
        have HR3 := hid (ho3.rd (by omega))
        have HL3 := hid (HL2.out.on hb3)
        have HB3 := hid (below_on HB2.out hb3)
        clear ho3 hb3 hn3
        go_wp2_with fail
        refine (zzClone_full _ _ word w3 HR3.out).mono ?_
        rintro e w4 ⟨a4, rfl, ho4, hb4, hn4⟩
        have HR4 := hid (ho4.rd (by omega))
        have HR3b := hid (HR3.out.on hb4)
        have HL4 := hid (HL3.out.on hb4)
        have HB4 := hid (below_on HB3.out hb4)
        clear ho4 hb4 hn4
        have HCL : Hid (∀ j, j < line.length → w4.cell? ⟨w.heap.size, j, none⟩ = some (.int .u8 (line.getD j 0))) := by
          obtain ⟨ao, c, e, -, -, -, h⟩ := HL4.out
          simp only [Value.slice.injEq] at e
          obtain ⟨rfl, -, -⟩ := e
          intro j hj
          obtain ⟨b', off', e, -, h'⟩ := h j hj
          simp only [Option.some.injEq, Addr.mk.injEq] at e
          obtain ⟨rfl, rfl, -⟩ := e
          rw [Nat.zero_add] at h'
          exact h'
        have ci2 := HCL.out n (by omega)
        rw [← HQ.out] at ci2
        go_wp2_with fail
        go_loop [14] (fun t => ∃ k : Nat, t = .int .i64 k ∧ n + 1 ≤ k ∧ k ≤ line.length ∧ Hid (∀ j, n + 1 ≤ j → j < k → line.getD j 0 ≠ q)) (fun t => line.length - (intOf t).toNat)
        case atStart => exact ⟨n + 1, by go_num, by omega, by omega, fun j h1 h2 => by omega⟩
        case round =>
          obtain ⟨k, rfl, hk1, hk2, HNQ⟩ := hrel
          by_cases hgo : k < line.length ∧ line.getD k 0 ≠ q
          · obtain ⟨hgo1, hgo2⟩ := hgo
            have c0 := HCL.out k hgo1
            have r0 := HY.out k hgo1
            have hne : (line.getD k 0 != q) = true := by simpa using hgo2
            have HN2 : Hid (∀ j, n + 1 ≤ j → j < k + 1 → line.getD j 0 ≠ q) := by
              intro j h1 h2
              by_cases e : j = k
              · rw [e]; exact hgo2
              · exact HNQ.out j h1 (by omega)
            obtain ⟨c, hcc⟩ : ∃ c, c = line.getD k 0 := ⟨_, rfl⟩
            rw [← hcc] at c0 r0 hne
            clear hcc hgo2
            go_wp2
            refine ⟨⟨k + 1, by go_num, by omega, by omega, HN2⟩, ?_⟩
            simp [intOf]; omega
          have hEA : EndAt q line n k := ⟨hk1, hk2, HNQ.out, fun h => by
            by_cases e : line.getD k 0 = q
            · exact e
            · exact absurd ⟨h, e⟩ hgo⟩
          have HEA := hid hEA
          have hcase : (line.length : Int) ≤ k ∨ ((k : Int) < line.length ∧ w4.cell? ⟨w.heap.size, k, none⟩ = some (.int .u8 q)) := by
            by_cases h : k < line.length
            · right
              have := HCL.out k h
              rw [hEA.2.2.2 h] at this
              exact ⟨by omega, this⟩
            · left; omega
          clear hEA hgo HNQ
          have hqf : (q != q) = false := by simp
          rcases hcase with hcase | ⟨hcase, ck⟩
          all_goals
            go_wp2_with fail
            go_loop [15, 16] (fun p t => ∃ (j : Nat) (β : Bool), t = .int .i64 j ∧ p = .bool β ∧ n + 1 ≤ j ∧ j ≤ k ∧ Hid (β = true ↔ ∀ x, n + 1 ≤ x → x < j → line.getD x 0 ≠ 92)) (fun _ t => k - (intOf t).toNat)
            case atStart => exact ⟨n + 1, true, by go_num, rfl, by omega, by omega, ⟨fun _ x h1 h2 => by omega, fun _ => rfl⟩⟩
            case round =>
              obtain ⟨j, β, rfl, rfl, hj1, hj2, HPL⟩ := hrel
              by_cases hjk : (j : Int) < k
              · have c0 := HCL.out j (by omega)
                by_cases h92 : line.getD j 0 = 92
                · rw [h92] at c0
                  have HP2 : Hid (false = true ↔ ∀ x, n + 1 ≤ x → x < j + 1 → line.getD x 0 ≠ 92) := ⟨fun h => (by cases h), fun h => absurd h92 (h j hj1 (by omega))⟩
                  clear h92
                  go_wp2
                  refine ⟨⟨j + 1, false, by go_num, rfl, by omega, by omega, HP2⟩, ?_⟩
                  simp [intOf]; omega
                · have h92' : (line.getD j 0 == 92) = false := by simpa using h92
                  have HP2 : Hid (β = true ↔ ∀ x, n + 1 ≤ x → x < j + 1 → line.getD x 0 ≠ 92) := by
                    constructor
                    · intro hb x h1 h2
                      by_cases e : x = j
                      · rw [e]; exact h92
                      · exact HPL.out.1 hb x h1 (by omega)
                    · exact fun h => HPL.out.2 fun x h1 h2 => h x h1 (by omega)
                  obtain ⟨c, hcc⟩ : ∃ c, c = line.getD j 0 := ⟨_, rfl⟩
                  rw [← hcc] at c0 h92'
                  clear hcc h92
                  go_wp2
                  refine ⟨⟨j + 1, β, by go_num, rfl, by omega, by omega, HP2⟩, ?_⟩
                  simp [intOf]; omega
              have hjk2 : j = k := by omega
              subst hjk2
              have hcut := fun wx => run_cut_lh wx (some ⟨w.heap.size, 0, none⟩) line.length line.length (n + 1) j ((n : Int) + 1) j (by omega) rfl (by omega) (by omega)
              have HSEG := hid (rd_cutAt HL4.out (n + 1) j (by omega) (by omega))
              obtain ⟨ac, hac⟩ : ∃ ac, ac = cutAt (some ⟨w.heap.size, 0, none⟩) line.length (n + 1) := ⟨_, rfl⟩
              rw [← hac] at hcut HSEG
              clear hac
              go_wp2_with fail
              refine (zzClone_full _ _ _ w4 HSEG.out).mono ?_
              rintro e w5 ⟨a5, rfl, ho5, hb5, hn5⟩
              have hSlen : ((line.take j).drop (n + 1)).length ≤ line.length := by simp; omega
              obtain ⟨S, hS⟩ : ∃ S, S = (line.take j).drop (n + 1) := ⟨_, rfl⟩
              rw [← hS] at ho5 hSlen ⊢
              have HS := hid hS
              have HR5 := hid (ho5.rd (by omega))
              have HR3c := hid (HR3b.out.on hb5)
              have HR4b := hid (HR4.out.on hb5)
              have HL5 := hid (HL4.out.on hb5)
              have HB5 := hid (below_on HB4.out hb5)
              clear hS ho5 hb5 hn5 HSEG hcut
              go_wp2_with fail
              refine (zzCat3_any _ _ _ pre line tail w5 (HP.out.on HB5.out) HL5.out (HT.out.on HB5.out) (by omega)).mono ?_
              rintro e w6 ⟨v6, rfl, hr6, hb6⟩
              have HR6 := hid hr6
              have HR5b := hid (HR5.out.on hb6)
              have HR3d := hid (HR3c.out.on hb6)
              have HR4c := hid (HR4b.out.on hb6)
              have HL6 := hid (HL5.out.on hb6)
              have HB6 := hid (below_on HB5.out hb6)
              clear hr6 hb6
              go_wp2_with fail
              refine (zzAq_any w6.heap.size _ _ word line n w6 (Own.buf HR3d.out) HL6.out (by omega) HY.out (Nat.le_refl _) (by omega)).mono ?_
              rintro e w7 ⟨v7, rfl, hi7⟩
              rw [← HQ.out] at hi7 ⊢
              obtain ⟨A, n1, b1, hR⟩ : ∃ A n1 b1, (A, n1, b1) = aq q (line.drop (n + 1)) := ⟨_, _, _, rfl⟩
              rw [← hR] at hi7 ⊢
              have HRR := hid hR
              have hAl : A.length ≤ line.length := by have := aq_len q line (n + 1); rw [← hR] at this; exact this
              have h7 := hi7.buf.rd hi7.bel.size (by simp; omega)
              have HR7 := hid h7
              have HR6b := hid (HR6.out.on hi7.bel)
              have HR5c := hid (HR5b.out.on hi7.bel)
              have HR4d := hid (HR4c.out.on hi7.bel)
              have HB7 := hid (below_on HB6.out hi7.bel)
              clear hi7 hR h7
              simp only
              go_wp2_with fail
              have hc16 := zzAq_any w7.heap.size (.slice none 0 0) v6 [] (pre ++ (line ++ tail)) (n + pre.length) w7 (buf_nil _ _) HR6b.out (by simp; omega) HYF.out (Nat.le_refl _) (by simp; omega)
              rw [full_at (by omega), full_drop (by omega), ← HQ.out] at hc16
              obtain ⟨A2, n2, b2, hR2⟩ : ∃ A2 n2 b2, (A2, n2, b2) = aq q (line.drop (n + 1) ++ tail) := ⟨_, _, _, rfl⟩
              rw [← hR2] at hc16
              rw [show ((n + pre.length : Nat) : Int) = (n : Int) + pre.length by omega] at hc16
              have HRR2 := hid hR2
              refine hc16.mono ?_
              clear hc16 hR2
              rintro e w8 ⟨v8, rfl, hi8⟩
              simp only at hi8 ⊢
              have hA2l : A2.length ≤ line.length + tail.length := by
                have := aq_lenF q (line.drop (n + 1) ++ tail).length (line.drop (n + 1) ++ tail)
                have e2 : (aqF q (line.drop (n + 1) ++ tail).length (line.drop (n + 1) ++ tail)).1 = A2 := by
                  have := HRR2.out; unfold aq at this; rw [← this]
                rw [e2] at this
                simp at this; omega
              have h8 := hi8.buf.rd hi8.bel.size (by simp; omega)
              rw [List.nil_append] at h8
              have HR8 := hid h8
              have HR7b := hid (HR7.out.on hi8.bel)
              have HR5d := hid (HR5c.out.on hi8.bel)
              have HR4e := hid (HR4d.out.on hi8.bel)
              have HB8 := hid (below_on HB7.out hi8.bel)
              clear hi8 h8
              obtain ⟨Y, hY⟩ : ∃ Y, Y = word ++ A := ⟨_, rfl⟩
              have hYl : Y.length = word.length + A.length := by rw [hY]; simp
              rw [← hY] at HR7b HR7
              obtain ⟨a7, c7, e7, hl7, hm7, hn7, -⟩ := HR7b.out
              rw [e7] at HR7b HR7 ⊢
              have HYE := hid hY
              have hcutH := fun wx => run_cut_h wx a7 Y.length c7 word.length word.length rfl (by omega)
              have hcutL := fun wx => run_cut_l wx a7 Y.length c7 word.length word.length rfl (by omega)
              have HFR : Hid (Rd w8.heap.size w8 (.slice (cutAt a7 c7 0) word.length c7) word) := by
                have := rd_cutAt HR7b.out 0 word.length (by omega) (by omega)
                rw [Nat.sub_zero, Nat.sub_zero, List.drop_zero] at this
                have e : Y.take word.length = word := by rw [HYE.out]; simp
                rw [e] at this
                exact this
              have HBK : Hid (Rd w8.heap.size w8 (.slice (cutAt a7 c7 word.length) (Y.length - word.length) (c7 - word.length)) A) := by
                have := rd_cutAt HR7b.out word.length Y.length (by omega) (by omega)
                have e : (Y.take Y.length).drop word.length = A := by rw [List.take_length, HYE.out]; simp
                rw [e] at this
                exact this
              obtain ⟨cf, hcf⟩ : ∃ cf, cf = cutAt a7 c7 0 := ⟨_, rfl⟩
              rw [← hcf] at hcutH HFR
              obtain ⟨cb, hcb⟩ : ∃ cb, cb = cutAt a7 c7 word.length := ⟨_, rfl⟩
              rw [← hcb] at hcutL HBK
              have hYl1 : word.length ≤ Y.length := by omega
              clear hY e7 hcf hcb hYl HYE hn7 HR7 HCL ci2
              go_wp2_with fail
              refine (zzEq_same _ _ _ _ word w8 HFR.out HR4e.out).mono ?_
              rintro e w9 ⟨rfl, n9, hw9⟩
              have HPLAIN : Hid (β = true → A = S ∧ b1 = decide (j < line.length) ∧ n1 = (if j < line.length then j - (n + 1) + 1 else line.length - (n + 1))) := by
                intro hb
                have hea := HEA.out
                have h := aq_plain q (j - (n + 1)) (line.drop (n + 1)) (by simp; omega) (fun x hx => by
                  have e : (line.drop (n + 1)).getD x 0 = line.getD (n + 1 + x) 0 := by rw [List.getD_eq_getElem?_getD, List.getD_eq_getElem?_getD, List.getElem?_drop]
                  rw [e]
                  exact ⟨hea.2.2.1 _ (by omega) (by omega), HPL.out.1 hb _ (by omega) (by omega)⟩) (fun hx => by
                  have e : (line.drop (n + 1)).getD (j - (n + 1)) 0 = line.getD (n + 1 + (j - (n + 1))) 0 := by rw [List.getD_eq_getElem?_getD, List.getD_eq_getElem?_getD, List.getElem?_drop]
                  rw [e, show n + 1 + (j - (n + 1)) = j by omega]
                  exact hea.2.2.2 (by simp at hx; omega))
                have hh := HRR.out.trans h
                simp only [Prod.mk.injEq] at hh
                obtain ⟨h1, h2, h3⟩ := hh
                refine ⟨by rw [h1, HS.out, List.drop_take], ?_, ?_⟩
                · rw [h3]
                  congr 1
                  simp only [List.length_drop, eq_iff_iff]; omega
                · rw [h2]
                  simp only [List.length_drop]
                  by_cases hj : j < line.length
                  · rw [if_pos (by omega), if_pos hj]
                  · rw [if_neg (by omega), if_neg hj]
              have HSAME : Hid (b1 = true ∨ tail.length = 0 → A2 = A ∧ n2 = n1 ∧ b2 = b1) := by
                intro h
                have e : aq q (line.drop (n + 1) ++ tail) = aq q (line.drop (n + 1)) := by
                  rcases h with h | h
                  · exact aq_ext HQQ.out _ _ (by rw [← HRR.out]; exact h)
                  · rw [List.length_eq_zero_iff.1 h, List.append_nil]
                have := HRR2.out.trans (e.trans HRR.out.symm)
                simpa using this
              have HOPEN : Hid (b1 = false → n + 1 + n1 = line.length) := by
                intro h
                have := aq_open q (line.drop (n + 1)) (by rw [← HRR.out]; exact h)
                rw [← HRR.out] at this
                simp at this
                omega
              have hn1L : n + 1 + n1 ≤ line.length := by
                have h := aq_takeF q (line.drop (n + 1)).length (line.drop (n + 1))
                have e2 : (aqF q (line.drop (n + 1)).length (line.drop (n + 1))).2.1 = n1 := by
                  have := HRR.out; unfold aq at this; rw [← this]
                rw [e2] at h
                simp at h
                omega
              cases β
              · cases b1
                · by_cases ht0 : tail.length = 0
                  · obtain ⟨rfl, rfl, rfl⟩ := HSAME.out (.inr ht0)
                    have htl : ((tail.length : Int) == 0) = true := by rw [beq_iff_eq]; omega
                    go_wp2_with fail
                    refine (zzEq_same _ _ _ _ _ (w8.drewN n9) (HBK.out.drewN _) (HR8.out.drewN _)).mono ?_
                    rintro e w11 ⟨rfl, n11, hw11⟩
                    go_wp2
                    go_ret
                    exact ⟨rfl, below_drewN HB8.out _⟩
                  · have htl : ((tail.length : Int) == 0) = false := by rw [beq_eq_false_iff_ne]; omega
                    have hjL2 : ((n : Int) + 1 + n1 == (line.length : Int)) = true := by have := HOPEN.out rfl; rw [beq_iff_eq]; omega
                    go_wp2
                    go_ret
                    exact ⟨rfl, below_drewN HB8.out _⟩
                · obtain ⟨rfl, rfl, rfl⟩ := HSAME.out (.inl rfl)
                  go_wp2_with fail
                  refine (zzEq_same _ _ _ _ _ (w8.drewN n9) (HBK.out.drewN _) (HR8.out.drewN _)).mono ?_
                  rintro e w11 ⟨rfl, n11, hw11⟩
                  go_wp2
                  go_ret
                  exact ⟨rfl, below_drewN HB8.out _⟩
              · obtain ⟨hAS, hb1, hn1⟩ := HPLAIN.out rfl
                subst hAS
                by_cases hjL : j < line.length
                · have hb1t : b1 = true := by rw [hb1]; simp [hjL]
                  rw [if_pos hjL] at hn1
                  have hwj : ((n : Int) + 1 + n1 != (j : Int) + 1) = false := by simp; omega
                  clear hb1 HPLAIN hn1
                  subst hb1t
                  obtain ⟨rfl, rfl, rfl⟩ := HSAME.out (.inl rfl)
                  first
                  | (exfalso; omega)
                  | (go_wp2_with fail
                     refine (zzEq_same _ _ _ _ _ (w8.drewN n9) (HBK.out.drewN _) (HR5d.out.drewN _)).mono ?_
                     rintro e w10 ⟨rfl, n10, hw10⟩
                     go_wp2_with fail
                     refine (zzEq_same _ _ _ _ _ (w8.drewN (n9 + n10)) (HBK.out.drewN _) (HR8.out.drewN _)).mono ?_
                     rintro e w11 ⟨rfl, n11, hw11⟩
                     go_wp2
                     go_ret
                     exact ⟨rfl, below_drewN HB8.out _⟩)
                · have hb1f : b1 = false := by rw [hb1]; simp [hjL]
                  rw [if_neg hjL] at hn1
                  have hwj : ((n : Int) + 1 + n1 != (line.length : Int)) = false := by simp; omega
                  clear hb1 HPLAIN hn1
                  subst hb1f
                  have HS2 : Hid (tail.length = 0 → A2 = A ∧ n2 = n1 ∧ b2 = false) := fun h => HSAME.out (.inr h)
                  have HJ : Hid (n + 1 + n1 = line.length) := HOPEN.out rfl
                  clear HSAME HOPEN
                  first
                  | (exfalso; omega)
                  | (go_wp2_with fail
                     refine (zzEq_same _ _ _ _ _ (w8.drewN n9) (HBK.out.drewN _) (HR5d.out.drewN _)).mono ?_
                     rintro e w10 ⟨rfl, n10, hw10⟩
                     by_cases ht0 : tail.length = 0
                     · obtain ⟨rfl, rfl, rfl⟩ := HS2.out ht0
                       have htl : ((tail.length : Int) == 0) = true := by rw [beq_iff_eq]; omega
                       go_wp2_with fail
                       refine (zzEq_same _ _ _ _ _ (w8.drewN (n9 + n10)) (HBK.out.drewN _) (HR8.out.drewN _)).mono ?_
                       rintro e w11 ⟨rfl, n11, hw11⟩
                       go_wp2
                       go_ret
                       exact ⟨rfl, below_drewN HB8.out _⟩
                     · have htl : ((tail.length : Int) == 0) = false := by rw [beq_eq_false_iff_ne]; omega
                       have hjL2 : ((n : Int) + 1 + n1 == (line.length : Int)) = true := by have := HJ.out; rw [beq_iff_eq]; omega
                       go_wp2
                       go_ret
                       exact ⟨rfl, below_drewN HB8.out _⟩)

    · have h34 : (q != 34) = true := by simp; exact fun h => hqq (.inl h)
      have h39 : (q != 39) = true := by simp; exact fun h => hqq (.inr h)
      clear hqq
      go_enter Tryd.func5, Tryd.ntmps5
      go_wp2_with (go_at_call 17; refine HBY.out.mono ?_; rintro e w' ⟨⟨β, rfl⟩, hw⟩; have hw2 := hw.symm; clear hw; subst hw2; cases β)
      all_goals go_ret
      all_goals exact ⟨rfl, Below.refl _ _⟩
  · obtain ⟨ao2, cap2, rfl, hl2, hm2, -, -⟩ := hlv
    have hout : i < 0 ∨ (line.length : Int) ≤ i := by omega
    clear hir
    rcases hout with ho | ho
    all_goals
      go_enter Tryd.func5, Tryd.ntmps5
      go_wp2_with (go_at_call 17; refine HBY.out.mono ?_; rintro e w' ⟨⟨β, rfl⟩, hw⟩; have hw2 := hw.symm; clear hw; subst hw2; cases β)
      all_goals go_ret
      all_goals exact ⟨rfl, Below.refl _ _⟩
end Go.Proofs.Qxb6608909aDoor
