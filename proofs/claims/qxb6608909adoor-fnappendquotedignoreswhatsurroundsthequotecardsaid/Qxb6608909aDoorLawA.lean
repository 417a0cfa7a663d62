import Derived.Test.Qxb6608909aDoorIsArr
namespace Go.Proofs.Qxb6608909aDoor
open Go.RowKit Go.Joins

/-- it returned a bool -/
def IsB (e : Ending) : Prop := ∃ β, e = .returned (.bool β)

set_option maxHeartbeats 1000000 in
set_option maxRecDepth 100000 in
theorem zzBytesA_any (B B' : Nat) (v ev : Value) (xs : List Int) (ess : List (List Int)) (w : World) (hv : Rd B w v xs) (hev : RdAll B' w ev ess) :
    Calls Tryd.prog 8 #[v, ev] w fun e w' => IsB e ∧ w' = w := by
  obtain ⟨ao, cap, rfl, hl, hm, -, -⟩ := hv
  obtain ⟨aoE, capE, rfl, hlE, hmE, -, hcE⟩ := hev
  have HCE := hid hcE
  clear hcE
  go_enter Tryd.func8, Tryd.ntmps8
  go_wp2
  rotate_right
  · go_loop [5, 6] (fun z i => ∃ (k : Nat) (s : Int), k ≤ ess.length ∧ i = .int .i64 k ∧ z = .int .i64 s ∧ 0 ≤ s ∧ s ≤ 1048576) (fun _ i => ess.length - (intOf i).toNat)
    case atStart => exact ⟨0, _, Nat.zero_le _, rfl, rfl, by omega, by omega⟩
    case round =>
      obtain ⟨k, s, hk, rfl, rfl, hs0, hs1⟩ := hrel
      by_cases hlt : (k : Int) < ess.length
      · obtain ⟨be, offe, e1, rfl, hlb, hx, hr⟩ := HCE.out k (by omega)
        obtain ⟨ao1, cap1, rfl, hl1, hm1, -, -⟩ := hr
        obtain ⟨m, hm⟩ : ∃ m, m = (ess.getD k []).length := ⟨_, rfl⟩
        rw [← hm] at hx hl1 hm1
        clear hm hlb
        go_wp2
        · go_ret
          exact ⟨⟨_, rfl⟩, rfl⟩
        · go_ret
          exact ⟨⟨_, rfl⟩, rfl⟩
        · refine ⟨⟨k + 1, _, by omega, by go_num, rfl, by omega, by omega⟩, ?_⟩
          simp [intOf]; omega
      · go_wp2
        go_ret
        exact ⟨⟨_, rfl⟩, rfl⟩
  all_goals go_ret
  all_goals exact ⟨⟨_, rfl⟩, rfl⟩

theorem zzClone_full (B : Nat) (v : Value) (xs : List Int) (w : World) (h : Rd B w v xs) :
    Calls Tryd.prog 9 #[v] w fun e w' => ∃ ao, e = .returned (.slice ao xs.length xs.length) ∧ Own w.heap.size w' (.slice ao xs.length xs.length) xs ∧ Below w.heap.size w w' ∧ (ao = none ↔ v = .slice none 0 0) := by
  have h' := h
  obtain ⟨ao, cap, rfl, hl, hm, hn, hc⟩ := h
  cases ao with
  | none =>
    have e1 := hn rfl
    subst e1
    have e2 : xs.length = 0 := by omega
    have e3 : xs = [] := List.length_eq_zero_iff.1 e2
    subst e3
    refine (zzClone_nil w).mono ?_
    rintro e w' ⟨rfl, rfl⟩
    exact ⟨none, rfl, World.ownsRow_nil _ _ _ _, Below.refl _ _, by simp⟩
  | some a =>
    refine (zzClone_some B a _ cap xs w h').mono ?_
    rintro e w' ⟨rfl, ho, hb⟩
    exact ⟨_, rfl, ho, hb, by simp⟩

/-- the sum of the first k lengths -/
def slen (ess : List (List Int)) (k : Nat) : Int := (((ess.take k).map List.length).sum : Nat)
theorem slen_succ (ess : List (List Int)) (k : Nat) (h : k < ess.length) : slen ess (k + 1) = slen ess k + (ess.getD k []).length := by
  unfold slen
  rw [take_snocL ess k h]; simp
theorem slen_nn (ess : List (List Int)) (k : Nat) : 0 ≤ slen ess k := by unfold slen; omega
theorem tot_slen (ess : List (List Int)) : (tot ess : Int) = slen ess ess.length + 27 * ess.length := by
  unfold slen tot
  rw [List.take_length]
  induction ess with
  | nil => simp
  | cons e es ih => simp at ih ⊢; omega

theorem Rd.on {w w' : World} {v : Value} {xs : List Int} (h : Rd w.heap.size w v xs) (hb : Below w.heap.size w w') : Rd w'.heap.size w' v xs := (h.below hb).mono hb.size
theorem RdAll.on {w w' : World} {v : Value} {xs : List (List Int)} (h : RdAll w.heap.size w v xs) (hb : Below w.heap.size w w') : RdAll w'.heap.size w' v xs := (h.below hb).mono hb.size
theorem Pow.on {w w' : World} (h : Pow w.heap.size w) (hb : Below w.heap.size w w') : Pow w'.heap.size w' := fun w2 h2 => h w2 (hb.trans (h2.mono hb.size))
theorem below_on {w w' w2 : World} (h : Below w.heap.size w w') (hb : Below w'.heap.size w' w2) : Below w.heap.size w w2 := h.trans (hb.mono h.size)
theorem wire_len (ess : List (List Int)) (h : tot ess ≤ 1073741824) : 3 ≤ (wire ess).length ∧ (wire ess).length ≤ 1073741824 + 64 := by
  have h1 := bulks_len ess (by omega)
  have h2 := hdr_len 42 ess.length (by have := len_tot ess; omega)
  have h3 : 3 ≤ (hdr 42 ess.length).length := by unfold hdr; simp
  unfold wire
  rw [List.length_append]; omega

/-- the front of a slice -/
theorem Rd_front {B b off cap : Nat} {w : World} {xs ys : List Int} (hB : b < B) (hc : ∀ k, k < (xs ++ ys).length → w.cell? ⟨b, off + k, none⟩ = some (.int .u8 ((xs ++ ys).getD k 0))) (hl : xs.length + ys.length ≤ cap) (hm : xs.length + ys.length ≤ 140737488355328 ∧ cap ≤ 9223372036854775807) :
    Rd B w (.slice (some ⟨b, off, none⟩) xs.length cap) xs := by
  refine ⟨_, _, rfl, by omega, by omega, (by simp), fun k hk => ⟨b, off, rfl, hB, ?_⟩⟩
  have := hc k (by simp; omega)
  rw [getD_app_left hk] at this
  exact this
/-- what is behind it -/
theorem Rd_back {B b off cap : Nat} {w : World} {xs ys : List Int} (hB : b < B) (hc : ∀ k, k < (xs ++ ys).length → w.cell? ⟨b, off + k, none⟩ = some (.int .u8 ((xs ++ ys).getD k 0))) (hl : xs.length + ys.length ≤ cap) (hm : xs.length + ys.length ≤ 140737488355328 ∧ cap ≤ 9223372036854775807) :
    Rd B w (.slice (some ⟨b, off + xs.length, none⟩) ys.length (cap - xs.length)) ys := by
  refine ⟨_, _, rfl, by omega, by omega, (by simp), fun k hk => ⟨b, off + xs.length, rfl, hB, ?_⟩⟩
  have := hc (xs.length + k) (by simp; omega)
  rw [getD_app_right, ← Nat.add_assoc] at this
  exact this

theorem Own.buf {B : Nat} {w : World} {ao : Option Addr} {xs : List Int} (h : Rd B w (.slice ao xs.length xs.length) xs) : Buf B w (.slice ao xs.length xs.length) xs := .inr ⟨ao, rfl, h⟩
theorem buf_nil (B : Nat) (w : World) : Buf B w (.slice none 0 0) [] := .inl (World.ownsRow_nil _ _ _ _)

set_option maxHeartbeats 4000000 in
set_option maxRecDepth 100000 in
theorem walkA (v ev : Value) (xs : List Int) (ess : List (List Int)) (w : World) (hv : Rd w.heap.size w v xs) (hev : RdAll w.heap.size w ev ess) (hpow : Pow w.heap.size w) :
    Calls Tryd.prog 3 #[v, ev] w fun e w' => e = .returned (.bool true) ∧ Below w.heap.size w w' := by
  have HV := hid hv
  have HE := hid hev
  have HPOW := hid hpow
  clear hpow
  have HBY := hid (zzBytesA_any _ _ v ev xs ess w hv hev)
  obtain ⟨ao, cap, rfl, hl, hm, -, -⟩ := hv
  obtain ⟨aoE, capE, rfl, hlE, hmE, -, hcE⟩ := hev
  have HCE := hid hcE
  clear hcE
  go_enter Tryd.func3, Tryd.ntmps3
  go_wp2_with (first
    | (go_at_call 8; refine HBY.out.mono ?_; rintro e w' ⟨⟨β, rfl⟩, hw⟩; have hw2 := hw.symm; clear hw; subst hw2; cases β))
  all_goals try (go_ret; exact ⟨rfl, Below.refl _ _⟩)
  have hsz : (xs.length : Int) + 24 * ess.length ≤ 1048576 := by assumption
  go_loop [5, 6] (fun z i => ∃ (k : Nat), k ≤ ess.length ∧ i = .int .i64 k ∧ z = .int .i64 (xs.length + 24 * ess.length + slen ess k) ∧ xs.length + 24 * ess.length + slen ess k ≤ 1048576) (fun _ i => ess.length - (intOf i).toNat)
  case atStart => exact ⟨0, Nat.zero_le _, rfl, by simp [slen], by simp [slen]; omega⟩
  case round =>
    obtain ⟨k, hk, rfl, rfl, hs1⟩ := hrel
    have hs0 := slen_nn ess k
    by_cases hlt : (k : Int) < ess.length
    · obtain ⟨be, offe, e1, rfl, hlb, hx, hr⟩ := HCE.out k (by omega)
      obtain ⟨ao1, cap1, rfl, hl1, hm1, -, -⟩ := hr
      have HS := hid (slen_succ ess k (by omega))
      obtain ⟨m, hm⟩ : ∃ m, m = (ess.getD k []).length := ⟨_, rfl⟩
      rw [← hm] at hx hl1 hm1 HS
      obtain ⟨S, hS⟩ : ∃ S, S = slen ess k := ⟨_, rfl⟩
      rw [← hS] at hs1 hs0 HS ⊢
      clear hm hlb hS
      go_wp2
      · go_ret
        exact ⟨rfl, Below.refl _ _⟩
      · refine ⟨⟨k + 1, by omega, by go_num, by rw [HS.out]; go_num, by rw [HS.out]; omega⟩, ?_⟩
        simp [intOf]; omega
    · have hke : k = ess.length := by omega
      subst hke
      have htot : xs.length + tot ess ≤ 2000000 := by
        have := tot_slen ess
        omega
      have hwl := wire_len ess (by omega)
      have HLN : Hid (∀ k, k < ess.length → (ess.getD k []).length < 1000000000) := by
        intro k hk
        have h1 := tot_take ess k hk
        have h2 := tot_le ess (k + 1)
        omega
      clear hs1 hs0 hlt HBY HCE
      go_wp2_with fail
      refine (zzClone_full _ _ xs w HV.out).mono ?_
      rintro e w1 ⟨a1, rfl, ho1, hb1, -⟩
      have HR1 := hid (ho1.rd (by omega))
      have HB1 := hid hb1
      clear ho1 hb1
      go_wp2_with fail
      refine (zzClone_full _ _ xs w1 HR1.out).mono ?_
      rintro e w2 ⟨a2, rfl, ho2, hb2, -⟩
      have HR2 := hid (ho2.rd (by omega))
      have HR1b := hid (HR1.out.on hb2)
      have HB2 := hid (below_on HB1.out hb2)
      clear ho2 hb2
      go_wp2_with fail
      refine (zzCloneAll_any _ ess w2 (HE.out.on HB2.out) (by omega)).mono ?_
      rintro e w3 ⟨v3, rfl, hr3, hb3⟩
      have HE3 := hid hr3
      have HR1c := hid (HR1b.out.on hb3)
      have HR2c := hid (HR2.out.on hb3)
      have HB3 := hid (below_on HB2.out hb3)
      clear hr3 hb3
      go_wp2_with fail
      refine (appendArray_any w3.heap.size _ xs _ ess w3 (Own.buf HR1c.out) (HE.out.on HB3.out) (Nat.le_refl _) (by omega) (HPOW.out.on HB3.out)).mono ?_
      rintro e w4 ⟨v4, rfl, ho4, hb4⟩
      have HR4 := hid (ho4.rd (by simp; omega))
      have HE4 := hid (HE3.out.on hb4)
      have HR2d := hid (HR2c.out.on hb4)
      have HB4 := hid (below_on HB3.out hb4)
      clear ho4 hb4
      go_wp2_with fail
      refine (appendArray_any w4.heap.size _ [] _ ess w4 (buf_nil _ _) (HE.out.on HB4.out) (Nat.le_refl _) (by simp; omega) (HPOW.out.on HB4.out)).mono ?_
      rintro e w5 ⟨v5, rfl, ho5, hb5⟩
      rw [List.nil_append] at ho5
      have HR5 := hid (ho5.rd (by omega))
      have HR4b := hid (HR4.out.on hb5)
      have HE5 := hid (HE4.out.on hb5)
      have HR2e := hid (HR2d.out.on hb5)
      have HB5 := hid (below_on HB4.out hb5)
      clear ho5 hb5
      obtain ⟨b4, off4, cap4, rfl, hl4, hm4, hbB4, hc4⟩ := HR4b.out.cells (by simp; omega)
      have HC4 := hid hc4
      clear hc4
      rw [List.length_append] at hl4 hm4 ⊢
      go_wp2_with fail
      refine (zzEq_same _ _ _ _ xs w5 (Rd_front hbB4 HC4.out hl4 hm4) HR2e.out).mono ?_
      rintro e w6 ⟨rfl, n6, hw6⟩
      have hcut := hid (Rd_back hbB4 HC4.out hl4 hm4)
      have hx1 : ¬ cap4 = xs.length := by omega
      clear HR4 HR4b HC4
      go_wp2_with fail
      refine (zzEq_same _ _ _ _ (wire ess) (w5.drewN n6) (hcut.out.drewN n6) (HR5.out.drewN n6)).mono ?_
      rintro e w7 ⟨rfl, n7, hw7⟩
      go_wp2_with fail
      refine (isArr_any w5.heap.size w5.heap.size v5 v3 (wire ess) ess (pos ess) (w5.drewN (n6 + n7)) (HR5.out.drewN _) (HE5.out.drewN _) (wire_head ess) (wire_num ess (by omega)) (wire_pos0 ess) (fun k hk => pos_succ ess k hk) (pos_end ess) (fun k hk => wire_at ess k hk (HLN.out k hk))).mono ?_
      rintro e w8 ⟨rfl, n8, hw8⟩
      go_wp2
      go_ret
      refine ⟨rfl, ?_⟩
      subst hw8
      exact below_drewN HB5.out _
end Go.Proofs.Qxb6608909aDoor
