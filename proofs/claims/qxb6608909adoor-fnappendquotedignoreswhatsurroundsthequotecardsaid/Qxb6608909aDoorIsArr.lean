import Derived.Test.Qxb6608909aDoorWire
namespace Go.Proofs.Qxb6608909aDoor
open Go.RowKit Go.Joins

theorem zzEq_same (B B' : Nat) (u v : Value) (xs : List Int) (w : World) (hu : Rd B w u xs) (hv : Rd B' w v xs) :
    Calls Tryd.prog 12 #[u, v] w fun e w' => e = .returned (.bool true) ∧ ∃ n, w' = w.drewN n := by
  refine (zzEq_any B B' u v xs xs w hu hv).mono ?_
  rintro e w' ⟨rfl, h⟩
  exact ⟨ret_bool (by simp), h⟩

theorem Rd.drewN {B : Nat} {w : World} {v : Value} {xs : List Int} (h : Rd B w v xs) (n : Nat) : Rd B (w.drewN n) v xs := h
theorem RdAll.drewN {B : Nat} {w : World} {v : Value} {xs : List (List Int)} (h : RdAll B w v xs) (n : Nat) : RdAll B (w.drewN n) v xs := h

/-- the cells of a slice that is not empty -/
theorem Rd.cells {B : Nat} {w : World} {v : Value} {xs : List Int} (h : Rd B w v xs) (h0 : 0 < xs.length) :
    ∃ b off cap, v = .slice (some ⟨b, off, none⟩) xs.length cap ∧ xs.length ≤ cap ∧ (xs.length ≤ 140737488355328 ∧ cap ≤ 9223372036854775807) ∧ b < B ∧ ∀ k, k < xs.length → w.cell? ⟨b, off + k, none⟩ = some (.int .u8 (xs.getD k 0)) := by
  obtain ⟨ao, cap, rfl, hl, hm, -, hc⟩ := h
  obtain ⟨b, off, rfl, hb, -⟩ := hc 0 h0
  refine ⟨b, off, cap, rfl, hl, hm, hb, fun k hk => ?_⟩
  obtain ⟨b', off', e, -, h⟩ := hc k hk
  simp only [Option.some.injEq, Addr.mk.injEq] at e
  obtain ⟨rfl, rfl, -⟩ := e
  exact h
/-- a cut of it -/
theorem Rd_cut {B b off cap Q : Nat} {w : World} {xs e : List Int} (hB : b < B) (hc : ∀ k, k < xs.length → w.cell? ⟨b, off + k, none⟩ = some (.int .u8 (xs.getD k 0))) (hQ : Q + e.length ≤ xs.length) (hl : xs.length ≤ cap) (hm : xs.length ≤ 140737488355328 ∧ cap ≤ 9223372036854775807)
    (hb : ∀ j, j < e.length → xs.getD (Q + j) 0 = e.getD j 0) : Rd B w (.slice (some ⟨b, off + Q, none⟩) e.length (cap - Q)) e := by
  refine ⟨_, _, rfl, by omega, by omega, (by simp), fun k hk => ⟨b, off + Q, rfl, hB, ?_⟩⟩
  have := hc (Q + k) (by omega)
  rw [hb k hk, ← Nat.add_assoc] at this
  exact this

/-- 's[l:h]' of a slice of bytes, the cut not at the capacity's end -/
theorem run_cut (wx : World) (b off len cap Q m : Nat) (h1 : Q + m ≤ cap) (h2 : Q < cap) :
    (Instr.slice 22 (.slice (some ⟨b, off, none⟩) len cap) (some (.int .i64 Q)) (some (.int .i64 ((Q : Int) + m))) none).run Tryd.prog wx = .ok (.slice (some ⟨b, off + Q, none⟩) m (cap - Q)) wx := by
  have hs : (sizeOf (Tryd.prog.elem 22)).run Tryd.prog wx = .ok 1 wx := by kernel_rfl
  rw [run_slice_lh wx 22 _ len cap Tryd.underlying22 .i64 .i64 (Q : Int) ((Q : Int) + m) (by omega) (by omega) (by omega), hs]
  have e1 : ((Q : Int) + m).toNat = Q + m := by omega
  have e2 : (Q : Int).toNat = Q := by omega
  simp only [Result.andThen, sliced, e1, e2]
  rw [if_neg (by omega)]
  simp only [Option.map_some, Addr.add_lit, Nat.mul_one, Nat.add_sub_cancel_left]

set_option maxHeartbeats 2000000 in
set_option maxRecDepth 100000 in
theorem isArr_any (B B' : Nat) (v ev : Value) (xs : List Int) (ess : List (List Int)) (P : Nat → Nat) (w : World) (hv : Rd B w v xs) (hev : RdAll B' w ev ess) (hhead : xs.getD 0 0 = 42) (hnum : NumAt xs 1 (dec ess.length))
    (hP0 : P 0 = 1 + (dec ess.length).length + 2) (hPs : ∀ k, k < ess.length → P (k + 1) = P k + 1 + (dec (ess.getD k []).length).length + 2 + (ess.getD k []).length + 2) (hPe : P ess.length = xs.length)
    (hat : ∀ k, k < ess.length → BulkAt xs (P k) (ess.getD k [])) :
    Calls Tryd.prog 13 #[v, ev] w fun e w' => e = .returned (.bool true) ∧ ∃ n, w' = w.drewN n := by
  have hlen : 0 < xs.length := by have := hnum.fits; omega
  have HV := hid hv
  obtain ⟨b, off, cap, rfl, hl, hm, hbB, hc⟩ := hv.cells hlen
  have HC := hid hc
  have c0 := hc 0 hlen
  rw [hhead, Nat.add_zero] at c0
  obtain ⟨ao, capE, rfl, hlE, hmE, -, hcE⟩ := hev
  have HCE := hid hcE
  have HPS := hid hPs
  have HPE := hid hPe
  have HAT := hid hat
  have HN := hid hnum
  have hfit := hnum.fits
  obtain ⟨q0, hq0⟩ : ∃ q0 : Nat, q0 = 1 + (dec ess.length).length + 2 := ⟨_, rfl⟩
  have HP0 : Hid (P 0 = q0) := by show P 0 = q0; rw [hq0, hP0]
  have hz1 : Calls Tryd.prog 28 #[.slice (some ⟨b, off, none⟩) xs.length cap, .int .i64 1] w fun e w' => e = .returned (.tuple #[.int .i64 ess.length, .int .i64 q0, .bool true]) ∧ w' = w := by
    have := zzNum_any B _ xs (dec ess.length) 1 w hv hnum
    rw [dec_val, ← hq0] at this
    exact this
  have HZ1 := hid hz1
  have hne : ((xs.length : Int) == 0) = false := by rw [beq_eq_false_iff_ne]; omega
  clear hv hc hcE hPs hPe hat hnum hP0 hq0 hz1 hfit hhead
  go_enter Tryd.func13, Tryd.ntmps13
  go_wp2_with (first
    | (go_at_call 28; refine HZ1.out.mono ?_; rintro e w' ⟨rfl, hw⟩; have hw2 := hw.symm; clear hw; subst hw2))
  go_loopw [6, 8] (fun q i wr => ∃ k : Nat, k ≤ ess.length ∧ q = .int .i64 (P k : Nat) ∧ i = .int .i64 k ∧ Hid (∃ n, wr = w.drewN n)) (fun _ i _ => ess.length - (intOf i).toNat)
  case atStart => exact ⟨0, Nat.zero_le _, by rw [HP0.out], rfl, ⟨0, rfl⟩⟩
  case round =>
    obtain ⟨k, hk, rfl, rfl, HW⟩ := hrel
    have hcr : ∀ a, wr.cell? a = w.cell? a := by obtain ⟨n, h⟩ := HW.out; rw [h]; exact fun _ => rfl
    have hrr : ∀ B v xs, Rd B w v xs → Rd B wr v xs := by obtain ⟨n, h⟩ := HW.out; rw [h]; exact fun _ _ _ h => h
    have HCR := hid hcr
    have HRR := hid hrr
    clear hcr hrr
    by_cases hlt : (k : Int) < ess.length
    · have hA := HAT.out k (by omega)
      have hP1 := HPS.out k (by omega)
      obtain ⟨be, offe, e1, rfl, hlb, hx, hr⟩ := HCE.out k (by omega)
      have HR := hid hr
      obtain ⟨ao1, cap1, rfl, hl1, hm1, -, -⟩ := hr
      obtain ⟨e, he⟩ : ∃ e, e = ess.getD k [] := ⟨_, rfl⟩
      rw [← he] at hA hP1 HR hx hl1 hm1
      clear he
      obtain ⟨p, hp⟩ : ∃ p, p = P k := ⟨_, rfl⟩
      rw [← hp] at hA hP1 ⊢
      clear hp
      have hfits := hA.fits
      have c1 := HC.out p (by omega)
      rw [hA.dollar] at c1
      obtain ⟨Q, hQ⟩ : ∃ Q : Nat, Q = p + 1 + (dec e.length).length + 2 := ⟨_, rfl⟩
      have c2 := HC.out (Q + e.length) (by omega)
      rw [hQ, hA.cr, ← hQ] at c2
      have c3 := HC.out (Q + e.length + 1) (by omega)
      rw [hQ, hA.lf, ← hQ] at c3
      have hz : Calls Tryd.prog 28 #[.slice (some ⟨b, off, none⟩) xs.length cap, .int .i64 (p + 1 : Nat)] wr fun e' w' => e' = .returned (.tuple #[.int .i64 e.length, .int .i64 Q, .bool true]) ∧ w' = wr := by
        have := zzNum_any B _ xs (dec e.length) (p + 1) wr (HRR.out _ _ _ HV.out) hA.num
        rw [dec_val, ← hQ] at this
        exact this
      have HZ := hid hz
      have HCUT : Hid (Rd B wr (.slice (some ⟨b, off + Q, none⟩) e.length (cap - Q)) e) := HRR.out _ _ _ <| Rd_cut hbB HC.out (by omega) hl hm (fun j hj => by rw [hQ]; exact hA.body j hj)
      have hQ1 : p + 3 ≤ Q := by omega
      have hQ2 : Q + e.length + 2 ≤ xs.length := by omega
      have HPK : Hid (P (k + 1) = Q + e.length + 2) := by show _ = _; omega
      rw [← HCR.out] at hx c1 c2 c3
      have HR2 := hid (HRR.out _ _ _ HR.out)
      clear hA hz hQ hfits hlb hP1 HZ1
      go_wp2_with (first
        | (go_at_call 28; refine HZ.out.mono ?_; rintro e w' ⟨rfl, hw⟩; have hw2 := hw.symm; clear hw; subst hw2))
      have hsl := fun wx => run_cut wx b off xs.length cap Q e.length (by omega) (by omega)
      have hQc : (Q : Int) + e.length < xs.length := by omega
      have hQd : (Q : Int) + e.length + 1 < xs.length := by omega
      go_quiet ((go_at_call 12; exact Calls.quiet_of (zzEq_same B B' _ _ e _ (HCUT.out.drewN _) (HR2.out.drewN _))))
      go_wp2
      go_roundw
      case rel => exact ⟨k + 1, by omega, by rw [HPK.out]; go_num, by go_num, by obtain ⟨n, h⟩ := HW.out; rw [h]; exact ⟨n + nq, by simp⟩⟩
      case measure => simp [intOf]; omega
    · go_wp2
      go_ret
      have hke : k = ess.length := by omega
      subst hke
      exact ⟨ret_bool (by rw [HPE.out]; simp), HW.out⟩
end Go.Proofs.Qxb6608909aDoor
