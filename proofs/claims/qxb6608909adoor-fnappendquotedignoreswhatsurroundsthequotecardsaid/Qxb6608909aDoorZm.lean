import Derived.Test.Qxb6608909aDoorAq
namespace Go.Proofs.Qxb6608909aDoor
open Go.RowKit Go.Joins

/-- the automaton: what has been taken so far is ahead of what is to come -/
def Zm (q : Int) (line : List Int) (i k : Nat) (W : List Int) (s : Nat) (h v : Int) : Prop :=
  i + 1 ≤ k ∧ k ≤ line.length ∧ W.length ≤ 3 * (k - (i + 1)) ∧ (0 ≤ h ∧ h ≤ 255) ∧ (0 ≤ v ∧ v ≤ 15) ∧ s ≤ 4 ∧ zm q (line.drop (i + 1)) 0 0 0 = ahead W (k - (i + 1)) (zm q (line.drop k) s h v)

theorem Zm.start {q : Int} {line : List Int} {i : Nat} (h : i < line.length) : Zm q line i (i + 1) [] 0 0 0 := by
  refine ⟨Nat.le_refl _, h, by simp, by omega, by omega, by omega, ?_⟩
  simp [ahead]
theorem Zm.go {q : Int} {line : List Int} {i k s s' : Nat} {W x : List Int} {h v : Int} (hz : Zm q line i k W s h v) (hk : k < line.length) (hs : zmStep q s h v (line.getD k 0) = .inr (x, s')) (hh : ¬ (s = 2 ∧ hexB (line.getD k 0) = true)) (hx : x.length ≤ 3) (hs4 : s' ≤ 4) :
    Zm q line i (k + 1) (W ++ x) s' h v := by
  obtain ⟨h1, h2, h3, h4, h5, h6, h7⟩ := hz
  refine ⟨by omega, by omega, by simp; omega, h4, h5, hs4, ?_⟩
  rw [h7, drop_cons hk, zm_on hs, ahead_ahead]
  have e1 : zmHd s h (line.getD k 0) = h := by unfold zmHd; rw [if_neg hh]
  have e2 : zmHv s v (line.getD k 0) = v := by unfold zmHv; rw [if_neg hh]
  rw [e1, e2]
  congr 1
  omega
theorem Zm.hex {q : Int} {line : List Int} {i k : Nat} {W : List Int} {h v : Int} (hz : Zm q line i k W 2 h v) (hk : k < line.length) (hr : 0 ≤ line.getD k 0 ∧ line.getD k 0 ≤ 255) (hh : hexB (line.getD k 0) = true) :
    Zm q line i (k + 1) W 3 (line.getD k 0) (hexv (line.getD k 0)) := by
  obtain ⟨h1, h2, h3, h4, h5, h6, h7⟩ := hz
  refine ⟨by omega, by omega, by omega, hr, hexv_bd hh, by omega, ?_⟩
  rw [h7, drop_cons hk, zm_on (w := []) (s := 3) (by unfold zmStep; rw [if_neg (by decide), if_pos rfl, if_pos hh]), ahead_ahead]
  have e1 : zmHd 2 h (line.getD k 0) = line.getD k 0 := by unfold zmHd; rw [if_pos ⟨rfl, hh⟩]
  have e2 : zmHv 2 v (line.getD k 0) = hexv (line.getD k 0) := by unfold zmHv; rw [if_pos ⟨rfl, hh⟩]
  rw [e1, e2, List.append_nil]
  congr 1
  omega
theorem Zm.stop {q : Int} {line : List Int} {i k s m : Nat} {W x : List Int} {h v : Int} (hz : Zm q line i k W s h v) (hk : k < line.length) (hs : zmStep q s h v (line.getD k 0) = .inl (x, m)) :
    zm q (line.drop (i + 1)) 0 0 0 = (W ++ x, k + m - (i + 1), true) := by
  obtain ⟨h1, h2, h3, h4, h5, h6, h7⟩ := hz
  rw [h7, drop_cons hk]
  simp only [zm, hs, ahead, Prod.mk.injEq, true_and, and_true]
  omega
theorem Zm.fin {q : Int} {line : List Int} {i k s : Nat} {W : List Int} {h v : Int} (hz : Zm q line i k W s h v) (hk : line.length ≤ k) :
    zm q (line.drop (i + 1)) 0 0 0 = ahead W (line.length - (i + 1)) (zmEnd q s h) := by
  obtain ⟨h1, h2, h3, h4, h5, h6, h7⟩ := hz
  have e : k = line.length := by omega
  subst e
  rw [h7, List.drop_length]
  rfl

set_option linter.unusedSimpArgs false in
set_option maxHeartbeats 16000000 in
set_option maxRecDepth 100000 in
theorem zmGo_any (B : Nat) (v lv : Value) (xs line : List Int) (i : Nat) (w : World) (hbuf : Buf B w v xs) (hlv : Rd B w lv line) (hi : i < line.length) (hby : Byt line) (hB : B ≤ w.heap.size) (hlim : xs.length + 3 * line.length + 8 ≤ 140737488355328) :
    Calls Tryd.prog 15 #[v, lv, .int .i64 i] w fun e w' => ∃ v', e = .returned (.tuple #[v', .int .i64 (i + 1 + (zm (line.getD i 0) (line.drop (i + 1)) 0 0 0).2.1 : Nat), .bool (zm (line.getD i 0) (line.drop (i + 1)) 0 0 0).2.2]) ∧ WInv B w v xs w' v' (zm (line.getD i 0) (line.drop (i + 1)) 0 0 0).1 := by
  obtain ⟨b, off, cap, rfl, hl, hm, hbB, hc⟩ := hlv.cells (by omega)
  have HI0 : Hid (WInv B w v xs w v []) := ⟨by rw [List.append_nil]; exact hbuf, Below.refl _ _, by simp⟩
  have HC := hid hc
  have HY := hid hby
  have ci := hc i hi
  obtain ⟨q, hq⟩ : ∃ q, q = line.getD i 0 := ⟨_, rfl⟩
  have hq255 := hby i hi
  rw [← hq] at ci hq255 ⊢
  have HS := hid (Zm.start (q := q) hi)
  obtain ⟨R, hR⟩ : ∃ R, R = zm q (line.drop (i + 1)) 0 0 0 := ⟨_, rfl⟩
  rw [← hR]
  have HR := hid hR
  clear hc hby hq hbuf hlv hR
  go_enter Tryd.func15, Tryd.ntmps15
  go_wp2
  go_loopw [0, 10, 11, 12, 13] (fun u st hd hv t wr => ∃ (k s : Nat) (W : List Int) (h v' : Int), t = .int .i64 k ∧ st = .int .i64 s ∧ hd = .int .u8 h ∧ hv = .int .u8 v' ∧ Hid (Zm q line i k W s h v') ∧ Hid (WInv B w v xs wr u W)) (fun _ _ _ _ t _ => line.length - (intOf t).toNat)
  case atStart => exact ⟨i + 1, 0, [], 0, 0, by go_num, rfl, rfl, rfl, HS, HI0⟩
  case round =>
    obtain ⟨k, s, W, h, v', rfl, rfl, rfl, rfl, HZ, HI⟩ := hrel
    obtain ⟨ha1, ha2, ha3, hh255, hv15, hs4, -⟩ := HZ.out
    have HCR : Hid (∀ j, j < line.length → wr.cell? ⟨b, off + j, none⟩ = some (.int .u8 (line.getD j 0))) := fun j hj => (HI.out.bel.cell (p := ⟨b, off + j, none⟩) hbB).trans (HC.out j hj)
    by_cases hlt : (k : Int) < line.length
    · have hkl : k < line.length := by omega
      have c0 := HCR.out k hkl
      have r0 := HY.out k hkl
      have hsc : s = 0 ∨ s = 1 ∨ s = 2 ∨ s = 3 ∨ s = 4 := by omega
      rcases hsc with rfl | rfl | rfl | rfl | rfl
      · skip
        by_cases hcq : line.getD k 0 = q
        · have hzs : zmStep q 0 h v' (line.getD k 0) = .inl ([], 1) := by
            unfold zmStep; rw [if_neg (by decide), if_neg (by decide), if_neg (by decide), if_neg (by decide)]
            rw [hcq]; simp [zmPlain, zmPut]
          have HR2 := hid (HR.out.trans (HZ.out.stop hkl hzs))
          rw [hcq] at c0 r0
          have hqq : (q == q) = true := by simp
          clear hzs hcq
          go_wp2
          go_ret3
          refine ⟨_, ret_vib (by rw [HR2.out]; show _ = ((i + 1 + (k + 1 - (i + 1)) : Nat) : Int); omega) (by rw [HR2.out]), by rw [HR2.out]; simpa using HI.out⟩
        have hne : (line.getD k 0 == q) = false := by simpa using hcq
        by_cases h92 : line.getD k 0 = 92
        · have hc39 : (92 : Int) ≠ q := by rw [← h92]; exact hcq
          by_cases h39 : q = 39
          · have hzs : zmStep q 0 h v' (line.getD k 0) = .inr ([], 4) := by
              unfold zmStep; rw [if_neg (by decide), if_neg (by decide), if_neg (by decide), if_neg (by decide)]
              rw [h92]; simp [zmPlain, zmPut, h39]
            have HZ2 := hid (HZ.out.go hkl hzs (by rintro ⟨h1, h2⟩; first | exact absurd h1 (by decide) | (rw [h2] at hhx; cases hhx)) (by simp) (by omega))
            have h39' : (q == 39) = true := by simpa using h39
            rw [h92] at c0 r0 hne
            clear hzs hcq h92 h39 hc39
            go_wp2
            go_roundw
            case rel => exact ⟨k + 1, 4, _, h, v', by go_num, rfl, rfl, rfl, HZ2, by simpa using HI⟩
            case measure => simp [intOf]; omega
          · have hzs : zmStep q 0 h v' (line.getD k 0) = .inr ([], 1) := by
              unfold zmStep; rw [if_neg (by decide), if_neg (by decide), if_neg (by decide), if_neg (by decide)]
              rw [h92]; simp [zmPlain, zmPut, h39, hc39]
            have HZ2 := hid (HZ.out.go hkl hzs (by rintro ⟨h1, h2⟩; first | exact absurd h1 (by decide) | (rw [h2] at hhx; cases hhx)) (by simp) (by omega))
            have h39' : (q == 39) = false := by simpa using h39
            rw [h92] at c0 r0 hne
            clear hzs hcq h92 h39 hc39
            go_wp2
            go_roundw
            case rel => exact ⟨k + 1, 1, _, h, v', by go_num, rfl, rfl, rfl, HZ2, by simpa using HI⟩
            case measure => simp [intOf]; omega
        have hzs : zmStep q 0 h v' (line.getD k 0) = .inr ([line.getD k 0], 0) := by
          unfold zmStep; rw [if_neg (by decide), if_neg (by decide), if_neg (by decide), if_neg (by decide)]
          simp only [zmPlain]; rw [if_neg hcq, if_neg h92]
        have HZ2 := hid (HZ.out.go hkl hzs (by rintro ⟨h1, h2⟩; first | exact absurd h1 (by decide) | (rw [h2] at hhx; cases hhx)) (by simp) (by omega))
        have h92' : (line.getD k 0 == 92) = false := by simpa using h92
        obtain ⟨c, hcc⟩ : ∃ c, c = line.getD k 0 := ⟨_, rfl⟩
        rw [← hcc] at c0 r0 hne h92' HZ2
        clear hzs hcq h92 hcc
        go_wp2_with (first
            | (at_builtin; refine wpPut rfl (.tmp 104) (.tmp 106) rfl B w v xs _ c _ rfl rfl HI.out hB (by simp; omega) ?_; intro v2 w2 HI2))
        go_roundw
        case rel => exact ⟨k + 1, 0, _, h, v', by go_num, rfl, rfl, rfl, HZ2, by simpa using HI2⟩
        case measure => simp [intOf]; omega
      · by_cases hx : line.getD k 0 = 120
        · have hzs : zmStep q 1 h v' (line.getD k 0) = .inr ([], 2) := by unfold zmStep; rw [if_pos rfl, if_pos hx]
          have HZ2 := hid (HZ.out.go hkl hzs (by rintro ⟨h1, h2⟩; exact absurd h1 (by decide)) (by simp) (by omega))
          rw [hx] at c0 r0
          clear hzs hx
          go_wp2
          go_roundw
          case rel => exact ⟨k + 1, 2, _, h, v', by go_num, rfl, rfl, rfl, HZ2, by simpa using HI⟩
          case measure => simp [intOf]; omega
        · have hzs : zmStep q 1 h v' (line.getD k 0) = .inr ([unesc (line.getD k 0)], 0) := by unfold zmStep; rw [if_pos rfl, if_neg hx]
          have HZ2 := hid (HZ.out.go hkl hzs (by rintro ⟨h1, h2⟩; exact absurd h1 (by decide)) (by simp) (by omega))
          have hx' : (line.getD k 0 == 120) = false := by simpa using hx
          obtain ⟨c, hcc⟩ : ∃ c, c = line.getD k 0 := ⟨_, rfl⟩
          rw [← hcc] at c0 r0 hx' HZ2
          clear hzs hx hcc
          go_wp2_with (first
            | (go_at_call 29; refine (zzUnesc_any _ _).mono ?_; rintro e w' ⟨rfl, hw⟩; have hw2 := hw.symm; clear hw; subst hw2)
            | (at_builtin; refine wpPut rfl (.tmp 39) (.tmp 42) rfl B w v xs _ (unesc c) _ rfl rfl HI.out hB (by simp; omega) ?_; intro v2 w2 HI2))
          go_roundw
          case rel => exact ⟨k + 1, 0, _, h, v', by go_num, rfl, rfl, rfl, HZ2, HI2⟩
          case measure => simp [intOf]; omega
      · by_cases hhx : hexB (line.getD k 0) = true
        · have HZ2 := hid (HZ.out.hex hkl r0 hhx)
          obtain ⟨c, hcc⟩ : ∃ c, c = line.getD k 0 := ⟨_, rfl⟩
          rw [← hcc] at c0 r0 hhx HZ2
          have ho : hexo c = hexv c := by simp [hexo, hhx]
          clear hcc
          go_wp2_with (go_at_call 30; refine (zzHexVal_any _ _ (by omega) (by omega)).mono ?_; rintro e w' ⟨rfl, hw⟩; have hw2 := hw.symm; clear hw; subst hw2)
          go_roundw
          case rel => exact ⟨k + 1, 3, _, c, hexv c, by go_num, rfl, rfl, rfl, HZ2, HI⟩
          case measure => simp [intOf]; omega
        replace hhx : hexB (line.getD k 0) = false := by simpa using hhx
        by_cases hcq : line.getD k 0 = q
        · have hzs : zmStep q 2 h v' (line.getD k 0) = .inl ([120], 1) := by
            unfold zmStep; rw [if_neg (by decide), if_pos rfl, if_neg (by rw [hhx]; decide)]
            rw [hcq]; simp [zmPlain, zmPut]
          have HR2 := hid (HR.out.trans (HZ.out.stop hkl hzs))
          rw [hcq] at c0 r0 hhx
          have hqq : (q == q) = true := by simp
          clear hzs hcq
          go_wp2_with (first
            | (go_at_call 30; refine (zzHexVal_any _ _ (by omega) (by omega)).mono ?_; rintro e w' ⟨rfl, hw⟩; have hw2 := hw.symm; clear hw; subst hw2)
            | (at_builtin; refine wpPut rfl (.tmp 54) (.tmp 55) rfl B w v xs _ 120 _ rfl rfl HI.out hB (by simp; omega) ?_; intro v2 w2 HI2))
          go_ret3
          refine ⟨_, ret_vib (by rw [HR2.out]; show _ = ((i + 1 + (k + 1 - (i + 1)) : Nat) : Int); omega) (by rw [HR2.out]), by rw [HR2.out]; simpa using HI2.out⟩
        have hne : (line.getD k 0 == q) = false := by simpa using hcq
        by_cases h92 : line.getD k 0 = 92
        · have hc39 : (92 : Int) ≠ q := by rw [← h92]; exact hcq
          by_cases h39 : q = 39
          · have hzs : zmStep q 2 h v' (line.getD k 0) = .inr ([120], 4) := by
              unfold zmStep; rw [if_neg (by decide), if_pos rfl, if_neg (by rw [hhx]; decide)]
              rw [h92]; simp [zmPlain, zmPut, h39]
            have HZ2 := hid (HZ.out.go hkl hzs (by rintro ⟨h1, h2⟩; first | exact absurd h1 (by decide) | (rw [h2] at hhx; cases hhx)) (by simp) (by omega))
            have h39' : (q == 39) = true := by simpa using h39
            rw [h92] at c0 r0 hne hhx
            clear hzs hcq h92 h39 hc39
            go_wp2_with (first
            | (go_at_call 30; refine (zzHexVal_any _ _ (by omega) (by omega)).mono ?_; rintro e w' ⟨rfl, hw⟩; have hw2 := hw.symm; clear hw; subst hw2)
            | (at_builtin; refine wpPut rfl (.tmp 54) (.tmp 55) rfl B w v xs _ 120 _ rfl rfl HI.out hB (by simp; omega) ?_; intro v2 w2 HI2))
            go_roundw
            case rel => exact ⟨k + 1, 4, _, h, v', by go_num, rfl, rfl, rfl, HZ2, by simpa using HI2⟩
            case measure => simp [intOf]; omega
          · have hzs : zmStep q 2 h v' (line.getD k 0) = .inr ([120], 1) := by
              unfold zmStep; rw [if_neg (by decide), if_pos rfl, if_neg (by rw [hhx]; decide)]
              rw [h92]; simp [zmPlain, zmPut, h39, hc39]
            have HZ2 := hid (HZ.out.go hkl hzs (by rintro ⟨h1, h2⟩; first | exact absurd h1 (by decide) | (rw [h2] at hhx; cases hhx)) (by simp) (by omega))
            have h39' : (q == 39) = false := by simpa using h39
            rw [h92] at c0 r0 hne hhx
            clear hzs hcq h92 h39 hc39
            go_wp2_with (first
            | (go_at_call 30; refine (zzHexVal_any _ _ (by omega) (by omega)).mono ?_; rintro e w' ⟨rfl, hw⟩; have hw2 := hw.symm; clear hw; subst hw2)
            | (at_builtin; refine wpPut rfl (.tmp 54) (.tmp 55) rfl B w v xs _ 120 _ rfl rfl HI.out hB (by simp; omega) ?_; intro v2 w2 HI2))
            go_roundw
            case rel => exact ⟨k + 1, 1, _, h, v', by go_num, rfl, rfl, rfl, HZ2, by simpa using HI2⟩
            case measure => simp [intOf]; omega
        have hzs : zmStep q 2 h v' (line.getD k 0) = .inr ([120, line.getD k 0], 0) := by
          unfold zmStep; rw [if_neg (by decide), if_pos rfl, if_neg (by rw [hhx]; decide)]
          simp only [zmPlain]; rw [if_neg hcq, if_neg h92]; rfl
        have HZ2 := hid (HZ.out.go hkl hzs (by rintro ⟨h1, h2⟩; first | exact absurd h1 (by decide) | (rw [h2] at hhx; cases hhx)) (by simp) (by omega))
        have h92' : (line.getD k 0 == 92) = false := by simpa using h92
        obtain ⟨c, hcc⟩ : ∃ c, c = line.getD k 0 := ⟨_, rfl⟩
        rw [← hcc] at c0 r0 hne h92' HZ2 hhx
        clear hzs hcq h92 hcc
        go_wp2_with (first
            | (go_at_call 30; refine (zzHexVal_any _ _ (by omega) (by omega)).mono ?_; rintro e w' ⟨rfl, hw⟩; have hw2 := hw.symm; clear hw; subst hw2)
            | (at_builtin; refine wpPut rfl (.tmp 54) (.tmp 55) rfl B w v xs _ 120 _ rfl rfl HI.out hB (by simp; omega) ?_; intro v2 w2 HI2)
            | (at_builtin; refine wpPut rfl (.tmp 104) (.tmp 106) rfl B w v xs _ c _ rfl rfl HI2.out hB (by simp; omega) ?_; intro v3 w3 HI3))
        go_roundw
        case rel => exact ⟨k + 1, 0, _, h, v', by go_num, rfl, rfl, rfl, HZ2, by simpa using HI3⟩
        case measure => simp [intOf]; omega
      · by_cases hhx : hexB (line.getD k 0) = true
        · have hzs : zmStep q 3 h v' (line.getD k 0) = .inr ([v' * 16 + hexv (line.getD k 0)], 0) := by unfold zmStep; rw [if_neg (by decide), if_neg (by decide), if_pos rfl, if_pos hhx]
          have HZ2 := hid (HZ.out.go hkl hzs (by rintro ⟨h1, h2⟩; exact absurd h1 (by decide)) (by simp) (by omega))
          obtain ⟨c, hcc⟩ : ∃ c, c = line.getD k 0 := ⟨_, rfl⟩
          rw [← hcc] at c0 r0 hhx HZ2
          have ho : hexo c = hexv c := by simp [hexo, hhx]
          have hvb := hexv_bd hhx
          clear hcc hzs
          go_wp2_with (first
            | (go_at_call 30; refine (zzHexVal_any _ _ (by omega) (by omega)).mono ?_; rintro e w' ⟨rfl, hw⟩; have hw2 := hw.symm; clear hw; subst hw2)
            | (at_builtin; refine wpPut rfl (.tmp 65) (.tmp 70) rfl B w v xs _ (v' * 16 + hexv c) _ rfl rfl HI.out hB (by simp; omega) ?_; intro v2 w2 HI2))
          go_roundw
          case rel => exact ⟨k + 1, 0, _, h, v', by go_num, rfl, rfl, rfl, HZ2, HI2⟩
          case measure => simp [intOf]; omega
        replace hhx : hexB (line.getD k 0) = false := by simpa using hhx
        by_cases hhq : h = q
        · have hzs : zmStep q 3 h v' (line.getD k 0) = .inl ([120], 0) := by unfold zmStep; rw [if_neg (by decide), if_neg (by decide), if_pos rfl, if_neg (by rw [hhx]; decide), if_pos hhq]
          have HR2 := hid (HR.out.trans (HZ.out.stop hkl hzs))
          have hhq' : (h == q) = true := by simpa using hhq
          obtain ⟨c, hcc⟩ : ∃ c, c = line.getD k 0 := ⟨_, rfl⟩
          rw [← hcc] at c0 r0 hhx
          clear hcc hzs hhq
          go_wp2_with (first
            | (go_at_call 30; refine (zzHexVal_any _ _ (by omega) (by omega)).mono ?_; rintro e w' ⟨rfl, hw⟩; have hw2 := hw.symm; clear hw; subst hw2)
            | (at_builtin; refine wpPut rfl (.tmp 72) (.tmp 73) rfl B w v xs _ 120 _ rfl rfl HI.out hB (by simp; omega) ?_; intro v2 w2 HI2))
          go_ret3
          refine ⟨_, ret_vib (by rw [HR2.out]; show _ = ((i + 1 + (k + 0 - (i + 1)) : Nat) : Int); omega) (by rw [HR2.out]), by rw [HR2.out]; exact HI2.out⟩
        have hhq' : (h == q) = false := by simpa using hhq
        by_cases hcq : line.getD k 0 = q
        · have hzs : zmStep q 3 h v' (line.getD k 0) = .inl ([120, h], 1) := by
            unfold zmStep; rw [if_neg (by decide), if_neg (by decide), if_pos rfl, if_neg (by rw [hhx]; decide), if_neg hhq]
            rw [hcq]; simp [zmPlain, zmPut]
          have HR2 := hid (HR.out.trans (HZ.out.stop hkl hzs))
          rw [hcq] at c0 r0 hhx
          have hqq : (q == q) = true := by simp
          clear hzs hcq hhq
          go_wp2_with (first
            | (go_at_call 30; refine (zzHexVal_any _ _ (by omega) (by omega)).mono ?_; rintro e w' ⟨rfl, hw⟩; have hw2 := hw.symm; clear hw; subst hw2)
            | (at_builtin; refine wpPut rfl (.tmp 72) (.tmp 73) rfl B w v xs _ 120 _ rfl rfl HI.out hB (by simp; omega) ?_; intro v2 w2 HI2)
            | (at_builtin; refine wpPut rfl (.tmp 80) (.tmp 82) rfl B w v xs _ h _ rfl rfl HI2.out hB (by simp; omega) ?_; intro v3 w3 HI3))
          go_ret3
          refine ⟨_, ret_vib (by rw [HR2.out]; show _ = ((i + 1 + (k + 1 - (i + 1)) : Nat) : Int); omega) (by rw [HR2.out]), by rw [HR2.out]; simpa using HI3.out⟩
        have hne : (line.getD k 0 == q) = false := by simpa using hcq
        by_cases h92 : line.getD k 0 = 92
        · have hc39 : (92 : Int) ≠ q := by rw [← h92]; exact hcq
          by_cases h39 : q = 39
          · have hzs : zmStep q 3 h v' (line.getD k 0) = .inr ([120, h], 4) := by
              unfold zmStep; rw [if_neg (by decide), if_neg (by decide), if_pos rfl, if_neg (by rw [hhx]; decide), if_neg hhq]
              rw [h92]; simp [zmPlain, zmPut, h39]
            have HZ2 := hid (HZ.out.go hkl hzs (by rintro ⟨h1, h2⟩; first | exact absurd h1 (by decide) | (rw [h2] at hhx; cases hhx)) (by simp) (by omega))
            have h39' : (q == 39) = true := by simpa using h39
            rw [h92] at c0 r0 hne hhx
            clear hzs hcq hhq h92 h39 hc39
            go_wp2_with (first
            | (go_at_call 30; refine (zzHexVal_any _ _ (by omega) (by omega)).mono ?_; rintro e w' ⟨rfl, hw⟩; have hw2 := hw.symm; clear hw; subst hw2)
            | (at_builtin; refine wpPut rfl (.tmp 72) (.tmp 73) rfl B w v xs _ 120 _ rfl rfl HI.out hB (by simp; omega) ?_; intro v2 w2 HI2)
            | (at_builtin; refine wpPut rfl (.tmp 80) (.tmp 82) rfl B w v xs _ h _ rfl rfl HI2.out hB (by simp; omega) ?_; intro v3 w3 HI3))
            go_roundw
            case rel => exact ⟨k + 1, 4, _, h, v', by go_num, rfl, rfl, rfl, HZ2, by simpa using HI3⟩
            case measure => simp [intOf]; omega
          · have hzs : zmStep q 3 h v' (line.getD k 0) = .inr ([120, h], 1) := by
              unfold zmStep; rw [if_neg (by decide), if_neg (by decide), if_pos rfl, if_neg (by rw [hhx]; decide), if_neg hhq]
              rw [h92]; simp [zmPlain, zmPut, h39, hc39]
            have HZ2 := hid (HZ.out.go hkl hzs (by rintro ⟨h1, h2⟩; first | exact absurd h1 (by decide) | (rw [h2] at hhx; cases hhx)) (by simp) (by omega))
            have h39' : (q == 39) = false := by simpa using h39
            rw [h92] at c0 r0 hne hhx
            clear hzs hcq hhq h92 h39 hc39
            go_wp2_with (first
            | (go_at_call 30; refine (zzHexVal_any _ _ (by omega) (by omega)).mono ?_; rintro e w' ⟨rfl, hw⟩; have hw2 := hw.symm; clear hw; subst hw2)
            | (at_builtin; refine wpPut rfl (.tmp 72) (.tmp 73) rfl B w v xs _ 120 _ rfl rfl HI.out hB (by simp; omega) ?_; intro v2 w2 HI2)
            | (at_builtin; refine wpPut rfl (.tmp 80) (.tmp 82) rfl B w v xs _ h _ rfl rfl HI2.out hB (by simp; omega) ?_; intro v3 w3 HI3))
            go_roundw
            case rel => exact ⟨k + 1, 1, _, h, v', by go_num, rfl, rfl, rfl, HZ2, by simpa using HI3⟩
            case measure => simp [intOf]; omega
        have hzs : zmStep q 3 h v' (line.getD k 0) = .inr ([120, h, line.getD k 0], 0) := by
          unfold zmStep; rw [if_neg (by decide), if_neg (by decide), if_pos rfl, if_neg (by rw [hhx]; decide), if_neg hhq]
          simp only [zmPlain]; rw [if_neg hcq, if_neg h92]; rfl
        have HZ2 := hid (HZ.out.go hkl hzs (by rintro ⟨h1, h2⟩; first | exact absurd h1 (by decide) | (rw [h2] at hhx; cases hhx)) (by simp) (by omega))
        have h92' : (line.getD k 0 == 92) = false := by simpa using h92
        obtain ⟨c, hcc⟩ : ∃ c, c = line.getD k 0 := ⟨_, rfl⟩
        rw [← hcc] at c0 r0 hne h92' HZ2 hhx
        clear hzs hcq hhq h92 hcc
        go_wp2_with (first
            | (go_at_call 30; refine (zzHexVal_any _ _ (by omega) (by omega)).mono ?_; rintro e w' ⟨rfl, hw⟩; have hw2 := hw.symm; clear hw; subst hw2)
            | (at_builtin; refine wpPut rfl (.tmp 72) (.tmp 73) rfl B w v xs _ 120 _ rfl rfl HI.out hB (by simp; omega) ?_; intro v2 w2 HI2)
            | (at_builtin; refine wpPut rfl (.tmp 80) (.tmp 82) rfl B w v xs _ h _ rfl rfl HI2.out hB (by simp; omega) ?_; intro v3 w3 HI3)
            | (at_builtin; refine wpPut rfl (.tmp 104) (.tmp 106) rfl B w v xs _ c _ rfl rfl HI3.out hB (by simp; omega) ?_; intro v4 w4 HI4))
        go_roundw
        case rel => exact ⟨k + 1, 0, _, h, v', by go_num, rfl, rfl, rfl, HZ2, by simpa using HI4⟩
        case measure => simp [intOf]; omega
      · by_cases hx : line.getD k 0 = 39
        · have hzs : zmStep q 4 h v' (line.getD k 0) = .inr ([39], 0) := by unfold zmStep; rw [if_neg (by decide), if_neg (by decide), if_neg (by decide), if_pos rfl, if_pos hx]
          have HZ2 := hid (HZ.out.go hkl hzs (by rintro ⟨h1, h2⟩; exact absurd h1 (by decide)) (by simp) (by omega))
          rw [hx] at c0 r0
          clear hzs hx
          go_wp2_with (at_builtin; refine wpPut rfl (.tmp 88) (.tmp 89) rfl B w v xs _ 39 _ rfl rfl HI.out hB (by simp; omega) ?_; intro v2 w2 HI2)
          go_roundw
          case rel => exact ⟨k + 1, 0, _, h, v', by go_num, rfl, rfl, rfl, HZ2, HI2⟩
          case measure => simp [intOf]; omega
        have hx' : (line.getD k 0 == 39) = false := by simpa using hx
        by_cases hcq : line.getD k 0 = q
        · have hzs : zmStep q 4 h v' (line.getD k 0) = .inl ([92], 1) := by
            unfold zmStep; rw [if_neg (by decide), if_neg (by decide), if_neg (by decide), if_pos rfl, if_neg hx]
            rw [hcq]; simp [zmPlain, zmPut]
          have HR2 := hid (HR.out.trans (HZ.out.stop hkl hzs))
          rw [hcq] at c0 r0 hx'
          have hqq : (q == q) = true := by simp
          clear hzs hcq hx
          go_wp2_with (first
            | (at_builtin; refine wpPut rfl (.tmp 91) (.tmp 92) rfl B w v xs _ 92 _ rfl rfl HI.out hB (by simp; omega) ?_; intro v2 w2 HI2))
          go_ret3
          refine ⟨_, ret_vib (by rw [HR2.out]; show _ = ((i + 1 + (k + 1 - (i + 1)) : Nat) : Int); omega) (by rw [HR2.out]), by rw [HR2.out]; simpa using HI2.out⟩
        have hne : (line.getD k 0 == q) = false := by simpa using hcq
        by_cases h92 : line.getD k 0 = 92
        · have hc39 : (92 : Int) ≠ q := by rw [← h92]; exact hcq
          by_cases h39 : q = 39
          · have hzs : zmStep q 4 h v' (line.getD k 0) = .inr ([92], 4) := by
              unfold zmStep; rw [if_neg (by decide), if_neg (by decide), if_neg (by decide), if_pos rfl, if_neg hx]
              rw [h92]; simp [zmPlain, zmPut, h39]
            have HZ2 := hid (HZ.out.go hkl hzs (by rintro ⟨h1, h2⟩; first | exact absurd h1 (by decide) | (rw [h2] at hhx; cases hhx)) (by simp) (by omega))
            have h39' : (q == 39) = true := by simpa using h39
            rw [h92] at c0 r0 hne hx'
            clear hzs hcq hx h92 h39 hc39
            go_wp2_with (first
            | (at_builtin; refine wpPut rfl (.tmp 91) (.tmp 92) rfl B w v xs _ 92 _ rfl rfl HI.out hB (by simp; omega) ?_; intro v2 w2 HI2))
            go_roundw
            case rel => exact ⟨k + 1, 4, _, h, v', by go_num, rfl, rfl, rfl, HZ2, by simpa using HI2⟩
            case measure => simp [intOf]; omega
          · have hzs : zmStep q 4 h v' (line.getD k 0) = .inr ([92], 1) := by
              unfold zmStep; rw [if_neg (by decide), if_neg (by decide), if_neg (by decide), if_pos rfl, if_neg hx]
              rw [h92]; simp [zmPlain, zmPut, h39, hc39]
            have HZ2 := hid (HZ.out.go hkl hzs (by rintro ⟨h1, h2⟩; first | exact absurd h1 (by decide) | (rw [h2] at hhx; cases hhx)) (by simp) (by omega))
            have h39' : (q == 39) = false := by simpa using h39
            rw [h92] at c0 r0 hne hx'
            clear hzs hcq hx h92 h39 hc39
            go_wp2_with (first
            | (at_builtin; refine wpPut rfl (.tmp 91) (.tmp 92) rfl B w v xs _ 92 _ rfl rfl HI.out hB (by simp; omega) ?_; intro v2 w2 HI2))
            go_roundw
            case rel => exact ⟨k + 1, 1, _, h, v', by go_num, rfl, rfl, rfl, HZ2, by simpa using HI2⟩
            case measure => simp [intOf]; omega
        have hzs : zmStep q 4 h v' (line.getD k 0) = .inr ([92, line.getD k 0], 0) := by
          unfold zmStep; rw [if_neg (by decide), if_neg (by decide), if_neg (by decide), if_pos rfl, if_neg hx]
          simp only [zmPlain]; rw [if_neg hcq, if_neg h92]; rfl
        have HZ2 := hid (HZ.out.go hkl hzs (by rintro ⟨h1, h2⟩; first | exact absurd h1 (by decide) | (rw [h2] at hhx; cases hhx)) (by simp) (by omega))
        have h92' : (line.getD k 0 == 92) = false := by simpa using h92
        obtain ⟨c, hcc⟩ : ∃ c, c = line.getD k 0 := ⟨_, rfl⟩
        rw [← hcc] at c0 r0 hne h92' HZ2 hx'
        clear hzs hcq hx h92 hcc
        go_wp2_with (first
            | (at_builtin; refine wpPut rfl (.tmp 91) (.tmp 92) rfl B w v xs _ 92 _ rfl rfl HI.out hB (by simp; omega) ?_; intro v2 w2 HI2)
            | (at_builtin; refine wpPut rfl (.tmp 104) (.tmp 106) rfl B w v xs _ c _ rfl rfl HI2.out hB (by simp; omega) ?_; intro v3 w3 HI3))
        go_roundw
        case rel => exact ⟨k + 1, 0, _, h, v', by go_num, rfl, rfl, rfl, HZ2, by simpa using HI3⟩
        case measure => simp [intOf]; omega
    · have HF := HZ.out.fin (by omega)
      have hsc : s = 0 ∨ s = 1 ∨ s = 2 ∨ s = 3 ∨ s = 4 := by omega
      rcases hsc with rfl | rfl | rfl | rfl | rfl
      · have HR2 : Hid (R = (W, line.length - (i + 1), false)) := hid (by have := HR.out.trans HF; simpa [zmEnd, ahead] using this)
        clear HF
        go_wp2
        go_ret3
        refine ⟨_, ret_vib (by rw [HR2.out]; show _ = (i : Int) + 1 + ((line.length - (i + 1) : Nat) : Int); omega) (by rw [HR2.out]), by rw [HR2.out]; exact HI.out⟩
      · have HR2 : Hid (R = (W ++ [92], line.length - (i + 1), false)) := hid (by have := HR.out.trans HF; simpa [zmEnd, ahead] using this)
        clear HF
        go_wp2_with (at_builtin; refine wpPut rfl (.tmp 112) (.tmp 113) rfl B w v xs _ 92 _ rfl rfl HI.out hB (by simp; omega) ?_; intro v2 w2 HI2)
        go_ret3
        refine ⟨_, ret_vib (by rw [HR2.out]; show _ = (i : Int) + 1 + ((line.length - (i + 1) : Nat) : Int); omega) (by rw [HR2.out]), by rw [HR2.out]; exact HI2.out⟩
      · have HR2 : Hid (R = (W ++ [120], line.length - (i + 1), false)) := hid (by have := HR.out.trans HF; simpa [zmEnd, ahead] using this)
        clear HF
        go_wp2_with (at_builtin; refine wpPut rfl (.tmp 117) (.tmp 118) rfl B w v xs _ 120 _ rfl rfl HI.out hB (by simp; omega) ?_; intro v2 w2 HI2)
        go_ret3
        refine ⟨_, ret_vib (by rw [HR2.out]; show _ = (i : Int) + 1 + ((line.length - (i + 1) : Nat) : Int); omega) (by rw [HR2.out]), by rw [HR2.out]; exact HI2.out⟩
      · by_cases hhq : h = q
        · have HR2 : Hid (R = (W ++ [120], line.length - (i + 1), true)) := hid (by have := HR.out.trans HF; simpa [zmEnd, ahead, hhq] using this)
          have hhq' : (h == q) = true := by simpa using hhq
          clear HF hhq
          go_wp2_with (at_builtin; refine wpPut rfl (.tmp 122) (.tmp 123) rfl B w v xs _ 120 _ rfl rfl HI.out hB (by simp; omega) ?_; intro v2 w2 HI2)
          go_ret3
          refine ⟨_, ret_vib (by rw [HR2.out]; show _ = (i : Int) + 1 + ((line.length - (i + 1) : Nat) : Int); omega) (by rw [HR2.out]), by rw [HR2.out]; exact HI2.out⟩
        · have HR2 : Hid (R = (W ++ [120, h], line.length - (i + 1), false)) := hid (by have := HR.out.trans HF; simpa [zmEnd, ahead, hhq] using this)
          have hhq' : (h == q) = false := by simpa using hhq
          clear HF hhq
          go_wp2_with (first
            | (at_builtin; refine wpPut rfl (.tmp 122) (.tmp 123) rfl B w v xs _ 120 _ rfl rfl HI.out hB (by simp; omega) ?_; intro v2 w2 HI2)
            | (at_builtin; refine wpPut rfl (.tmp 131) (.tmp 133) rfl B w v xs _ h _ rfl rfl HI2.out hB (by simp; omega) ?_; intro v3 w3 HI3))
          go_ret3
          refine ⟨_, ret_vib (by rw [HR2.out]; show _ = (i : Int) + 1 + ((line.length - (i + 1) : Nat) : Int); omega) (by rw [HR2.out]), by rw [HR2.out]; simpa using HI3.out⟩
      · have HR2 : Hid (R = (W ++ [92], line.length - (i + 1), false)) := hid (by have := HR.out.trans HF; simpa [zmEnd, ahead] using this)
        clear HF
        go_wp2_with (at_builtin; refine wpPut rfl (.tmp 112) (.tmp 113) rfl B w v xs _ 92 _ rfl rfl HI.out hB (by simp; omega) ?_; intro v2 w2 HI2)
        go_ret3
        refine ⟨_, ret_vib (by rw [HR2.out]; show _ = (i : Int) + 1 + ((line.length - (i + 1) : Nat) : Int); omega) (by rw [HR2.out]), by rw [HR2.out]; exact HI2.out⟩
end Go.Proofs.Qxb6608909aDoor
