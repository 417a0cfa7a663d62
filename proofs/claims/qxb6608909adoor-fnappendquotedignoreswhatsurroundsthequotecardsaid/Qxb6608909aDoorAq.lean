import Derived.Test.Qxb6608909aDoorPu
import Derived.Test.Qxb6608909aDoorQuoIx
import Derived.Test.Qxb6608909aDoorLawA
namespace Go.Proofs.Qxb6608909aDoor
open Go.RowKit Go.Joins

def Byt (xs : List Int) : Prop := ∀ k, k < xs.length → 0 ≤ xs.getD k 0 ∧ xs.getD k 0 ≤ 255

/-- what stands of the word: xs and W behind it -/
structure WInv (B : Nat) (w : World) (v0 : Value) (xs : List Int) (wr : World) (v : Value) (W : List Int) : Prop where
  buf : Buf B wr v (xs ++ W)
  bel : Below B w wr
  nil : v = .slice none 0 0 ↔ v0 = .slice none 0 0 ∧ W = []

theorem own_not_nil {B : Nat} {w : World} {v : Value} {xs : List Int} {c : Int} {W : List Int} {v0 : Value} (h : Own B w v (xs ++ (W ++ [c]))) : v = .slice none 0 0 ↔ v0 = .slice none 0 0 ∧ W ++ [c] = [] := by
  obtain ⟨ao, cap, rfl⟩ := h.slice
  constructor
  · intro e; simp at e
  · rintro ⟨-, e⟩; simp at e

/-- one byte is appended to the word: the law at the append -/
theorem wpPut {ops : Array Oper} {rest : List Oper} {o : Oper} {a : Act} {wr : World} {Q : Exit → Act → World → Prop} (hgd : o.guard = none) (s x : Operand)
    (ho : o.op = .call { callee := .builtin .append, args := #[s, x], argTypes := #[22, 22] }) (B : Nat) (w : World) (v0 : Value) (xs W : List Int) (c : Int) (v : Value) (hs : a.eval s = v) (hx : a.eval x = .slice (some ⟨wr.heap.size, 0, none⟩) 1 1)
    (hi : WInv B w v0 xs wr v W) (hB : B ≤ w.heap.size) (hlim : xs.length + W.length + 1 ≤ 140737488355328)
    (h : ∀ v' w', Hid (WInv B w v0 xs w' v' (W ++ [c])) → wpList Tryd.prog ops Q rest (a.put o.dst v') w') : wpList Tryd.prog ops Q (o :: rest) a (wr.alloc (.cells #[.int .u8 c] 5)) := by
  have hBr : B ≤ wr.heap.size := Nat.le_trans hB hi.bel.size
  refine wpAppBuf hgd s x ho B _ (xs ++ W) [c] v _ hs hx (hi.buf.alloc hBr _) (Rd_new1 wr c) (by simp) (by simp; omega) (by simp; omega) w (hi.bel.alloc hBr _) ?_
  intro v' w' h1 h2
  rw [List.append_assoc] at h1
  exact h v' w' ⟨.inl h1, h2, own_not_nil h1⟩

theorem WInv.on {B : Nat} {w : World} {v0 : Value} {xs : List Int} {wr w1 : World} {v : Value} {W : List Int} (h : WInv B w v0 xs wr v W) (hb : Below wr.heap.size wr w1) (hB : B ≤ w.heap.size) : WInv B w v0 xs w1 v W := by
  have hBr : B ≤ wr.heap.size := Nat.le_trans hB h.bel.size
  refine ⟨?_, h.bel.trans (hb.mono hBr), h.nil⟩
  rcases h.buf with h1 | ⟨ao, h1, h2⟩
  · exact .inl (h1.keep hb)
  · exact .inr ⟨ao, h1, h2.below (hb.mono hBr)⟩

theorem ret_vib {v : Value} {a b : Int} {c d : Bool} (h : a = b) (h2 : c = d) : Ending.returned (.tuple #[v, .int .i64 a, .bool c]) = .returned (.tuple #[v, .int .i64 b, .bool d]) := by rw [h, h2]

/-- 's[k+2:k+4]' -/
theorem run_cut24 (wx : World) (b off len cap k : Nat) (h1 : k + 4 ≤ cap) :
    (Instr.slice 22 (.slice (some ⟨b, off, none⟩) len cap) (some (.int .i64 ((k : Int) + 2))) (some (.int .i64 ((k : Int) + 4))) none).run Tryd.prog wx = .ok (.slice (some ⟨b, off + (k + 2), none⟩) 2 (cap - (k + 2))) wx := by
  have := run_cut wx b off len cap (k + 2) 2 (by omega) (by omega)
  rw [show (((k + 2 : Nat) : Int)) = (k : Int) + 2 by omega, show ((k : Int) + 2 + (2 : Nat)) = (k : Int) + 4 by omega] at this
  exact this

set_option maxHeartbeats 8000000 in
set_option maxRecDepth 100000 in
theorem aqGo_any (B : Nat) (v lv : Value) (xs line : List Int) (i : Nat) (w : World) (hbuf : Buf B w v xs) (hlv : Rd B w lv line) (hi : i < line.length) (hby : Byt line) (hB : B ≤ w.heap.size) (hlim : xs.length + line.length + 8 ≤ 140737488355328) :
    Calls Tryd.prog 31 #[v, lv, .int .i64 i] w fun e w' => ∃ v', e = .returned (.tuple #[v', .int .i64 (i + 1 + (aq (line.getD i 0) (line.drop (i + 1))).2.1 : Nat), .bool (aq (line.getD i 0) (line.drop (i + 1))).2.2]) ∧ WInv B w v xs w' v' (aq (line.getD i 0) (line.drop (i + 1))).1 := by
  obtain ⟨b, off, cap, rfl, hl, hm, hbB, hc⟩ := hlv.cells (by omega)
  have HI0 : Hid (WInv B w v xs w v []) := ⟨by rw [List.append_nil]; exact hbuf, Below.refl _ _, by simp⟩
  have HC := hid hc
  have HY := hid hby
  have ci := hc i hi
  obtain ⟨q, hq⟩ : ∃ q, q = line.getD i 0 := ⟨_, rfl⟩
  have hq255 := hby i hi
  rw [← hq] at ci hq255 ⊢
  have HS := hid (Aq.start (q := q) hi)
  obtain ⟨R, hR⟩ : ∃ R, R = aq q (line.drop (i + 1)) := ⟨_, rfl⟩
  rw [← hR]
  have HR := hid hR
  clear hc hby hq hbuf hlv hR
  go_enter Tryd.func31, Tryd.ntmps31
  go_wp2
  go_loopw [0, 2] (fun u t wr => ∃ (k : Nat) (W : List Int), t = .int .i64 k ∧ Hid (Aq q line i k W) ∧ Hid (WInv B w v xs wr u W)) (fun _ t _ => line.length - (intOf t).toNat)
  case atStart => exact ⟨i + 1, [], by go_num, HS, HI0⟩
  case round =>
    obtain ⟨k, W, rfl, HA, HI⟩ := hrel
    have hA := HA.out
    obtain ⟨ha1, ha2, ha3, -⟩ := hA
    have hcell : ∀ j, j < line.length → wr.cell? ⟨b, off + j, none⟩ = some (.int .u8 (line.getD j 0)) := fun j hj => (HI.out.bel.cell (p := ⟨b, off + j, none⟩) hbB).trans (HC.out j hj)
    have HCR := hid hcell
    clear hcell
    by_cases hlt : (k : Int) < line.length
    · have c0 := HCR.out k (by omega)
      have r0 := HY.out k (by omega)
      by_cases hcq : line.getD k 0 = q
      · have hR2 := HA.out.stop (by omega) hcq
        rw [hcq] at c0 r0
        clear hcq
        have hqq : (q == q) = true := by simp
        have HR2 := hid (HR.out.trans hR2)
        clear hR2
        go_wp2
        go_ret3
        refine ⟨_, ret_vib (by rw [HR2.out]; show _ = ((i + 1 + (k + 1 - (i + 1)) : Nat) : Int); omega) (by rw [HR2.out]), by rw [HR2.out]; exact HI.out⟩
      have hne : (line.getD k 0 == q) = false := by simpa using hcq
      have HNE := hid hcq
      clear hcq
      by_cases hpl : line.getD k 0 ≠ 92 ∨ k + 1 = line.length
      · have HA2 := hid (HA.out.step (by omega) HNE.out (st_plain (by omega) hpl))
        obtain ⟨c, hc⟩ : ∃ c, c = line.getD k 0 := ⟨_, rfl⟩
        rw [← hc] at c0 r0 hne hpl HA2
        clear hc HNE
        by_cases h92 : c = 92
        · have hk1 : ((k : Int) + 1 == (line.length : Int)) = true := by rcases hpl with h | h; exact absurd h92 h; simp; omega
          have h92' : (c != 92) = false := by simpa using h92
          clear hpl h92
          go_wp2_with (at_builtin; refine wpPut rfl (.tmp 56) (.tmp 58) rfl B w v xs W c _ rfl rfl HI.out hB (by omega) ?_; intro v2 w2 HI2)
          go_roundw
          case rel => exact ⟨k + 1, W ++ [c], by go_num, HA2, HI2⟩
          case measure => simp [intOf]; omega
        · have h92' : (c != 92) = true := by simpa using h92
          clear hpl h92
          go_wp2_with (at_builtin; refine wpPut rfl (.tmp 56) (.tmp 58) rfl B w v xs W c _ rfl rfl HI.out hB (by omega) ?_; intro v2 w2 HI2)
          go_roundw
          case rel => exact ⟨k + 1, W ++ [c], by go_num, HA2, HI2⟩
          case measure => simp [intOf]; omega
      have h92 : line.getD k 0 = 92 := by
        by_cases h : line.getD k 0 = 92
        · exact h
        · exact absurd (.inl h) hpl
      have hk1 : k + 1 < line.length := by
        by_cases h : k + 1 = line.length
        · exact absurd (.inr h) hpl
        · omega
      have hk1' : ((k : Int) + 1 == (line.length : Int)) = false := by simp; omega
      have hk1i : (k : Int) + 1 < line.length := by omega
      have c1 := HCR.out (k + 1) hk1
      have r1 := HY.out (k + 1) hk1
      clear hpl
      by_cases h39 : q = 39
      · have h39' : (q == 39) = true := by simpa using h39
        by_cases hd : line.getD (k + 1) 0 = 39
        · have HA2 := hid (HA.out.step (by omega) HNE.out (st_sq1 hk1 h92 h39 hd))
          rw [h92] at c0 hne
          rw [hd] at c1
          clear h92 hd h39 r0 r1 HNE
          go_wp2_with (at_builtin; refine wpPut rfl (.tmp 71) (.tmp 73) rfl B w v xs W 39 _ rfl rfl HI.out hB (by omega) ?_; intro v2 w2 HI2)
          go_roundw
          case rel => exact ⟨k + 2, W ++ [39], by go_num, HA2, HI2⟩
          case measure => simp [intOf]; omega
        · have HA2 := hid (HA.out.step (by omega) HNE.out (st_sq0 hk1 h92 h39 hd))
          have hd' : (line.getD (k + 1) 0 == 39) = false := by simpa using hd
          obtain ⟨d, hdd⟩ : ∃ d, d = line.getD (k + 1) 0 := ⟨_, rfl⟩
          rw [← hdd] at c1 r1 hd'
          rw [h92] at c0 hne
          clear h92 hd hdd h39 r0 HNE
          go_wp2_with (at_builtin; refine wpPut rfl (.tmp 71) (.tmp 73) rfl B w v xs W 92 _ rfl rfl HI.out hB (by omega) ?_; intro v2 w2 HI2)
          go_roundw
          case rel => exact ⟨k + 1, W ++ [92], by go_num, HA2, HI2⟩
          case measure => simp [intOf]; omega
      have h39' : (q == 39) = false := by simpa using h39
      rw [h92] at c0 hne
      clear r0
      by_cases hd : line.getD (k + 1) 0 = 120
      · by_cases hk3 : k + 3 < line.length
        · have c2 := HCR.out (k + 2) (by omega)
          have r2 := HY.out (k + 2) (by omega)
          have c3 := HCR.out (k + 3) hk3
          have r3 := HY.out (k + 3) hk3
          have hk3i : (k : Int) + 3 < line.length := by omega
          by_cases hh : hexB (line.getD (k + 2) 0) = true ∧ hexB (line.getD (k + 3) 0) = true
          · obtain ⟨hh1, hh2⟩ := hh
            have HA2 := hid (HA.out.step (by omega) HNE.out (st_hex hk3 h92 h39 hd hh1 hh2))
            obtain ⟨d1, hd1⟩ : ∃ d1, d1 = line.getD (k + 2) 0 := ⟨_, rfl⟩
            obtain ⟨d2, hd2⟩ : ∃ d2, d2 = line.getD (k + 3) 0 := ⟨_, rfl⟩
            rw [← hd1] at c2 r2 hh1 HA2
            rw [← hd2] at c3 r3 hh2 HA2
            rw [hd] at c1
            have hsl := fun wx => run_cut24 wx b off line.length cap k (by omega)
            have hcv : (convert 22 9 (.slice (some ⟨b, off + (k + 2), none⟩) 2 (cap - (k + 2)))).run Tryd.prog wr = .ok (.string (strOfNums [d1, d2])) wr :=
              run_convert_bytes_arg wr 22 5 Tryd.underlying22 Tryd.underlying5 b (off + (k + 2)) 2 (cap - (k + 2)) [d1, d2] rfl (fun j hj => by
                have hj2 : j = 0 ∨ j = 1 := by omega
                rcases hj2 with rfl | rfl
                · simpa using c2
                · have e : off + (k + 2) + 1 = off + (k + 3) := by omega
                  rw [e]; simpa using c3) 9 Tryd.underlying9
            have b1 := hexv_bd hh1
            have b2 := hexv_bd hh2
            have HP := hid (parseUint_any d1 d2 r2 r3 hh1 hh2 wr)
            obtain ⟨S, hS⟩ : ∃ S, S = strOfNums [d1, d2] := ⟨_, rfl⟩
            rw [← hS] at hcv HP
            obtain ⟨X, hX⟩ : ∃ X, X = hexv d1 * 16 + hexv d2 := ⟨_, rfl⟩
            have hX1 : 0 ≤ X ∧ X ≤ 255 := by omega
            rw [← hX] at HP HA2
            have HH1 := hid hh1
            have HH2 := hid hh2
            clear hS hX h92 hd h39 hd1 hd2 HNE r1
            go_wp2_with (first
              | (go_at_call 37; refine (isHex_any _ _ (by omega) (by omega)).mono ?_; rintro e w' ⟨rfl, hw⟩; have hw2 := hw.symm; clear hw; subst hw2)
              | (go_at_call 38; refine HP.out.mono ?_; rintro e w1 ⟨rfl, hb1⟩; have HIb := hid (HI.out.on hb1 hB); clear hb1)
              | (at_builtin; refine wpPut rfl (.tmp 116) (.tmp 119) rfl B w v xs W X _ rfl rfl HIb.out hB (by omega) ?_; intro v2 w2 HI2))
            go_roundw
            case rel => exact ⟨k + 4, W ++ [X], by go_num, HA2, HI2⟩
            case measure => simp [intOf]; omega
          · have HA2 := hid (HA.out.step (by omega) HNE.out (st_esc hk1 h92 h39 (fun h => hh ⟨h.2.2.1, h.2.2.2⟩)))
            obtain ⟨d, hdd⟩ : ∃ d, d = line.getD (k + 1) 0 := ⟨_, rfl⟩
            obtain ⟨d1, hd1⟩ : ∃ d1, d1 = line.getD (k + 2) 0 := ⟨_, rfl⟩
            obtain ⟨d2, hd2⟩ : ∃ d2, d2 = line.getD (k + 3) 0 := ⟨_, rfl⟩
            rw [← hd1] at c2 r2 hh
            rw [← hd2] at c3 r3 hh
            rw [← hdd] at c1 r1 hd HA2
            have hd' : (d == 120) = true := by simpa using hd
            clear h92 hd h39 hdd hd1 hd2 HNE
            by_cases hh1 : hexB d1 = true
            · have hh2 : hexB d2 = false := by simpa [hh1] using hh
              clear hh
              go_wp2_with (first
                | (go_at_call 37; refine (isHex_any _ _ (by omega) (by omega)).mono ?_; rintro e w' ⟨rfl, hw⟩; have hw2 := hw.symm; clear hw; subst hw2)
                | (go_at_call 39; refine (unescape_any _ _).mono ?_; rintro e w' ⟨rfl, hw⟩; have hw2 := hw.symm; clear hw; subst hw2)
                | (at_builtin; refine wpPut rfl (.tmp 31) (.tmp 37) rfl B w v xs W (unesc d) _ rfl rfl HI.out hB (by omega) ?_; intro v2 w2 HI2))
              go_roundw
              case rel => exact ⟨k + 2, W ++ [unesc d], by go_num, HA2, HI2⟩
              case measure => simp [intOf]; omega
            · have hh2 : hexB d1 = false := by simpa using hh1
              clear hh hh1
              go_wp2_with (first
                | (go_at_call 37; refine (isHex_any _ _ (by omega) (by omega)).mono ?_; rintro e w' ⟨rfl, hw⟩; have hw2 := hw.symm; clear hw; subst hw2)
                | (go_at_call 39; refine (unescape_any _ _).mono ?_; rintro e w' ⟨rfl, hw⟩; have hw2 := hw.symm; clear hw; subst hw2)
                | (at_builtin; refine wpPut rfl (.tmp 31) (.tmp 37) rfl B w v xs W (unesc d) _ rfl rfl HI.out hB (by omega) ?_; intro v2 w2 HI2))
              go_roundw
              case rel => exact ⟨k + 2, W ++ [unesc d], by go_num, HA2, HI2⟩
              case measure => simp [intOf]; omega
        · have HA2 := hid (HA.out.step (by omega) HNE.out (st_esc hk1 h92 h39 (fun h => hk3 h.2.1)))
          obtain ⟨d, hdd⟩ : ∃ d, d = line.getD (k + 1) 0 := ⟨_, rfl⟩
          rw [← hdd] at c1 r1 hd HA2
          have hd' : (d == 120) = true := by simpa using hd
          have hk3i : ¬ (k : Int) + 3 < line.length := by omega
          clear h92 hd h39 hdd HNE hk3
          go_wp2_with (first
            | (go_at_call 37; refine (isHex_any _ _ (by omega) (by omega)).mono ?_; rintro e w' ⟨rfl, hw⟩; have hw2 := hw.symm; clear hw; subst hw2)
            | (go_at_call 39; refine (unescape_any _ _).mono ?_; rintro e w' ⟨rfl, hw⟩; have hw2 := hw.symm; clear hw; subst hw2)
            | (at_builtin; refine wpPut rfl (.tmp 31) (.tmp 37) rfl B w v xs W (unesc d) _ rfl rfl HI.out hB (by omega) ?_; intro v2 w2 HI2))
          go_roundw
          case rel => exact ⟨k + 2, W ++ [unesc d], by go_num, HA2, HI2⟩
          case measure => simp [intOf]; omega
      · have HA2 := hid (HA.out.step (by omega) HNE.out (st_esc hk1 h92 h39 (fun h => hd h.1)))
        obtain ⟨d, hdd⟩ : ∃ d, d = line.getD (k + 1) 0 := ⟨_, rfl⟩
        rw [← hdd] at c1 r1 hd HA2
        have hd' : (d == 120) = false := by simpa using hd
        clear h92 hd h39 hdd HNE
        go_wp2_with (first
          | (go_at_call 37; refine (isHex_any _ _ (by omega) (by omega)).mono ?_; rintro e w' ⟨rfl, hw⟩; have hw2 := hw.symm; clear hw; subst hw2)
          | (go_at_call 39; refine (unescape_any _ _).mono ?_; rintro e w' ⟨rfl, hw⟩; have hw2 := hw.symm; clear hw; subst hw2)
          | (at_builtin; refine wpPut rfl (.tmp 31) (.tmp 37) rfl B w v xs W (unesc d) _ rfl rfl HI.out hB (by omega) ?_; intro v2 w2 HI2))
        go_roundw
        case rel => exact ⟨k + 2, W ++ [unesc d], by go_num, HA2, HI2⟩
        case measure => simp [intOf]; omega
    · have HR2 := hid (HR.out.trans (HA.out.fin (by omega)))
      go_wp2
      go_ret3
      refine ⟨_, ret_vib (by rw [HR2.out]; show _ = (i : Int) + 1 + ((k - (i + 1) : Nat) : Int); omega) (by rw [HR2.out]), by rw [HR2.out]; exact HI.out⟩
end Go.Proofs.Qxb6608909aDoor
