import Derived.Test.Qxb6608909aDoorClones
namespace Go.Proofs.Qxb6608909aDoor
open Go.RowKit Go.Joins

def numv (l : List Int) : Int := l.foldl (fun v d => v * 10 + (d - 48)) 0

theorem numv_snoc (l : List Int) (d : Int) : numv (l ++ [d]) = numv l * 10 + (d - 48) := by unfold numv; simp
theorem take_snocI (l : List Int) (k : Nat) (h : k < l.length) : l.take (k + 1) = l.take k ++ [l.getD k 0] := by
  rw [List.take_succ_eq_append_getElem h, List.getD_eq_getElem?_getD, List.getElem?_eq_getElem h]; rfl
theorem numv_take (l : List Int) (k : Nat) (h : k < l.length) : numv (l.take (k + 1)) = numv (l.take k) * 10 + (l.getD k 0 - 48) := by
  rw [take_snocI l k h, numv_snoc]
theorem numv_bd (l : List Int) (hd : ∀ j, j < l.length → 48 ≤ l.getD j 0 ∧ l.getD j 0 ≤ 57) : ∀ k, k ≤ l.length → 0 ≤ numv (l.take k) ∧ numv (l.take k) < (10 ^ k : Nat)
  | 0, _ => by simp [numv]
  | k + 1, h => by
    have ih := numv_bd l hd k (by omega)
    have h1 := hd k (by omega)
    rw [numv_take l k (by omega), Nat.pow_succ]
    omega

theorem pow_le (k : Nat) (h : k ≤ 8) : 10 ^ k ≤ 100000000 := by
  have : 10 ^ k ≤ 10 ^ 8 := Nat.pow_le_pow_right (by decide) h
  omega

/-- digits ds stand at place p of xs, a CRLF behind them -/
structure NumAt (xs : List Int) (p : Nat) (ds : List Int) : Prop where
  fits : p + ds.length + 2 ≤ xs.length
  dig : ∀ j, j < ds.length → xs.getD (p + j) 0 = ds.getD j 0
  cr : xs.getD (p + ds.length) 0 = 13
  lf : xs.getD (p + ds.length + 1) 0 = 10
  digits : ∀ j, j < ds.length → 48 ≤ ds.getD j 0 ∧ ds.getD j 0 ≤ 57
  pos : 1 ≤ ds.length
  nine : ds.length ≤ 9
  lead : 1 < ds.length → ds.getD 0 0 ≠ 48

theorem ret_num3 {a a' b b' : Int} {c : Bool} (h1 : a = a') (h2 : b = b') : Ending.returned (.tuple #[.int .i64 a, .int .i64 b, .bool c]) = .returned (.tuple #[.int .i64 a', .int .i64 b', .bool c]) := by rw [h1, h2]

set_option maxHeartbeats 1000000 in
set_option maxRecDepth 100000 in
theorem zzNum_any (B : Nat) (v : Value) (xs ds : List Int) (p : Nat) (w : World) (hv : Rd B w v xs) (hn : NumAt xs p ds) :
    Calls Tryd.prog 28 #[v, .int .i64 p] w fun e w' => e = .returned (.tuple #[.int .i64 (numv ds), .int .i64 (p + ds.length + 2 : Nat), .bool true]) ∧ w' = w := by
  obtain ⟨ao, cap, rfl, hl, hm, -, hc⟩ := hv
  obtain ⟨b, off, rfl, -, -⟩ := hc 0 (by have := hn.fits; omega)
  have HC : Hid (∀ k, k < xs.length → w.cell? ⟨b, off + k, none⟩ = some (.int .u8 (xs.getD k 0))) := by
    intro k hk
    obtain ⟨b', off', e, -, h⟩ := hc k hk
    simp only [Option.some.injEq, Addr.mk.injEq] at e
    obtain ⟨rfl, rfl, -⟩ := e
    exact h
  clear hc
  have hfit := hn.fits
  have h9 := hn.nine
  have hp1 := hn.pos
  have HN := hid hn
  clear hn
  go_enter Tryd.func28, Tryd.ntmps28
  go_wp2
  go_loop [7, 8] (fun q t => ∃ j : Nat, j ≤ ds.length ∧ q = .int .i64 (p + j : Nat) ∧ t = .int .i64 (numv (ds.take j))) (fun q _ => p + ds.length - (intOf q).toNat)
  case atStart => exact ⟨0, Nat.zero_le _, rfl, rfl⟩
  case round =>
    obtain ⟨j, hj, rfl, rfl⟩ := hrel
    have hbd := numv_bd ds HN.out.digits j hj
    by_cases hlt : j < ds.length
    · have hpw := pow_le j (by omega)
      have hcell := HC.out (p + j) (by omega)
      rw [HN.out.dig j hlt] at hcell
      have hdg := HN.out.digits j hlt
      have HV : Hid (numv (ds.take (j + 1)) = numv (ds.take j) * 10 + (ds.getD j 0 - 48)) := numv_take ds j hlt
      obtain ⟨V, hV⟩ : ∃ V, V = numv (ds.take j) := ⟨_, rfl⟩
      obtain ⟨d, hd⟩ : ∃ d, d = ds.getD j 0 := ⟨_, rfl⟩
      rw [← hV] at hbd HV ⊢
      rw [← hd] at hcell hdg HV
      have hb2 : V < 100000000 := by omega
      have HVV := hid hV
      have HD := hid hd
      clear hV hd hpw
      have hb1 := hbd.1
      clear hbd
      obtain ⟨q, hq⟩ : ∃ q : Nat, q = p + j := ⟨_, rfl⟩
      rw [← hq] at hcell ⊢
      have hq1 : p ≤ q := by omega
      have hq2 : q < p + ds.length := by omega
      have HQ := hid hq
      clear hq
      go_wp2
      refine ⟨⟨j + 1, by omega, ?_, ?_⟩, ?_⟩
      · have := HQ.out; subst this; go_num
      · rw [HV.out]
      · have := HQ.out; simp [intOf]; omega
    · have hje : j = ds.length := by omega
      subst hje
      rw [List.take_length] at hbd ⊢
      have hb1 := hbd.1
      clear hbd
      have c1 := HC.out (p + ds.length) (by omega)
      rw [HN.out.cr] at c1
      have c2 := HC.out (p + ds.length + 1) (by omega)
      rw [HN.out.lf] at c2
      have c0 := HC.out p (by omega)
      have hld := HN.out.lead
      have hd0 := HN.out.dig 0 (by omega)
      rw [Nat.add_zero] at hd0
      rw [hd0] at c0
      obtain ⟨d, hd⟩ : ∃ d, d = ds.getD 0 0 := ⟨_, rfl⟩
      rw [← hd] at c0 hld
      clear hd0 hd
      obtain ⟨V, hV⟩ : ∃ V, V = numv ds := ⟨_, rfl⟩
      rw [← hV] at hb1 ⊢
      have HV := hid hV
      clear hV
      obtain ⟨q, hq⟩ : ∃ q : Nat, q = p + ds.length := ⟨_, rfl⟩
      rw [← hq] at c1 c2 ⊢
      have hq1 : p < q := by omega
      have hq2 : q + 2 ≤ xs.length := by omega
      have hc2 : w.cell? ⟨b, off + (q + 1), none⟩ = some (.int .u8 10) := by rw [← Nat.add_assoc] at c2 ⊢; exact c2
      have HQ := hid hq
      clear c2
      by_cases h1 : 1 < ds.length
      · have hne : (d == 48) = false := by simpa using hld h1
        have hq3 : (1 : Int) < q - p := by omega
        clear hld hq hlt
        go_wp2
        go_ret3
        exact ⟨ret_num3 HV.out (by have := HQ.out; omega), rfl⟩
      · have hq3 : ¬ (1 : Int) < q - p := by omega
        clear hld hq hlt c0
        go_wp2
        go_ret3
        exact ⟨ret_num3 HV.out (by have := HQ.out; omega), rfl⟩
end Go.Proofs.Qxb6608909aDoor
