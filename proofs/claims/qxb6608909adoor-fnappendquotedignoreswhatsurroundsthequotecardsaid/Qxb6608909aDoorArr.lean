import Derived.Test.Qxb6608909aDoorHdr
namespace Go.Proofs.Qxb6608909aDoor
open Go.RowKit

/-- the slice of slices of bytes -/
def RdAll (B : Nat) (w : World) (v : Value) (ess : List (List Int)) : Prop :=
  ∃ ao cap, v = .slice ao ess.length cap ∧ ess.length ≤ cap ∧ (ess.length ≤ 140737488355328 ∧ cap ≤ 9223372036854775807) ∧ (ao = none → cap = 0) ∧
    ∀ k, k < ess.length → ∃ b off ev, ao = some ⟨b, off, none⟩ ∧ b < B ∧ w.cell? ⟨b, off + k, none⟩ = some ev ∧ Rd B w ev (ess.getD k [])

theorem RdAll.mono {B B' : Nat} {w : World} {v : Value} {xs : List (List Int)} (h : RdAll B w v xs) (hB : B ≤ B') : RdAll B' w v xs := by
  obtain ⟨ao, cap, h1, h2, h3, h4, h5⟩ := h
  refine ⟨ao, cap, h1, h2, h3, h4, fun k hk => ?_⟩
  obtain ⟨b, off, ev, e, hb, hc, hr⟩ := h5 k hk
  exact ⟨b, off, ev, e, by omega, hc, hr.mono hB⟩
theorem RdAll.below {B : Nat} {w w' : World} {v : Value} {xs : List (List Int)} (h : RdAll B w v xs) (hb : Below B w w') : RdAll B w' v xs := by
  obtain ⟨ao, cap, h1, h2, h3, h4, h5⟩ := h
  refine ⟨ao, cap, h1, h2, h3, h4, fun k hk => ?_⟩
  obtain ⟨b, off, ev, e, hlt, hc, hr⟩ := h5 k hk
  exact ⟨b, off, ev, e, hlt, (hb.cell (p := ⟨b, off + k, none⟩) hlt).trans hc, hr.below hb⟩

def bulks (ess : List (List Int)) : List Int := ess.flatMap bulk
def wire (ess : List (List Int)) : List Int := hdr 42 ess.length ++ bulks ess
/-- the bytes of the elements, with room for what stands round each -/
def tot (ess : List (List Int)) : Nat := (ess.map fun e => e.length + 27).sum

theorem bulk_len (e : List Int) (h : e.length ≤ 9223372036854775807) : (bulk e).length ≤ e.length + 25 := by
  have := hdr_len 36 e.length h; unfold bulk; simp; omega
theorem take_snocL (ess : List (List Int)) (k : Nat) (h : k < ess.length) : ess.take (k + 1) = ess.take k ++ [ess.getD k []] := by
  rw [List.take_succ_eq_append_getElem h, List.getD_eq_getElem?_getD, List.getElem?_eq_getElem h]; rfl
theorem tot_take (ess : List (List Int)) (k : Nat) (h : k < ess.length) : tot (ess.take (k + 1)) = tot (ess.take k) + (ess.getD k []).length + 27 := by
  rw [take_snocL ess k h]; unfold tot; simp; omega
theorem tot_le (ess : List (List Int)) (k : Nat) : tot (ess.take k) ≤ tot ess := by
  have h : tot ess = tot (ess.take k) + tot (ess.drop k) := by
    have h2 : tot ess = tot (ess.take k ++ ess.drop k) := by rw [List.take_append_drop]
    rw [h2]; unfold tot; rw [List.map_append, List.sum_append]
  omega
theorem bulks_take (ess : List (List Int)) (k : Nat) (h : k < ess.length) : bulks (ess.take (k + 1)) = bulks (ess.take k) ++ bulk (ess.getD k []) := by
  rw [take_snocL ess k h]; unfold bulks; simp
theorem bulks_len (ess : List (List Int)) (h : tot ess ≤ 9223372036854775807) : (bulks ess).length ≤ tot ess := by
  induction ess with
  | nil => simp [bulks, tot]
  | cons e es ih =>
    have e1 : tot (e :: es) = e.length + 27 + tot es := by simp [tot]
    have e2 : bulks (e :: es) = bulk e ++ bulks es := by simp [bulks]
    have := bulk_len e (by omega)
    have := ih (by omega)
    rw [e1, e2, List.length_append]; omega

theorem len_tot (ess : List (List Int)) : ess.length ≤ tot ess := by
  induction ess with
  | nil => simp
  | cons e es ih => simp [tot] at ih ⊢; omega

set_option maxRecDepth 100000 in
theorem appendArray_any (B : Nat) (v : Value) (xs : List Int) (ev : Value) (ess : List (List Int)) (w : World) (hbuf : Buf B w v xs) (hev : RdAll B w ev ess) (hB : B ≤ w.heap.size) (hlim : xs.length + tot ess ≤ 1073741824) (htab : Pow B w) :
    Calls Tryd.prog 11 #[v, ev] w fun e w' => ∃ v', e = .returned v' ∧ Own B w' v' (xs ++ wire ess) ∧ Below B w w' := by
  have HT := hid htab
  have HBUF := hid hbuf
  have HEV := hid hev
  obtain ⟨ao, cap, rfl, hl, hm, -, hc⟩ := hev
  have hn := len_tot ess
  have hdl := hdr_len 42 ess.length (by omega)
  have HC := hid hc
  clear htab hbuf hc
  go_enter Tryd.func11, Tryd.ntmps11
  go_wp2_with (first
    | (go_at_call 26; refine (arrHdr_any B ess.length (by omega) v xs w HBUF.out hB (by omega) HT.out).mono ?_; rintro e w1 ⟨v1, rfl, ho1, hb1⟩; have HO1 := hid ho1; have HB1 := hid hb1; clear ho1 hb1))
  go_loopw [0, 13] (fun v i wr => ∃ k : Nat, k ≤ ess.length ∧ i = .int .i64 k ∧ Hid (Own B wr v (xs ++ hdr 42 ess.length ++ bulks (ess.take k))) ∧ Hid (Below B w wr)) (fun _ i _ => ess.length - (intOf i).toNat)
  case atStart => exact ⟨0, Nat.zero_le _, rfl, by simpa [bulks] using HO1, HB1⟩
  case round =>
    obtain ⟨k, hk, rfl, HO, HB⟩ := hrel
    by_cases hlt : (k : Int) < ess.length
    · obtain ⟨b, off, e1, rfl, hlb, hx, hr⟩ := HC.out k (by omega)
      have hx2 := (HB.out.cell (p := ⟨b, off + k, none⟩) hlb).trans hx
      have HR := hid (hr.below HB.out)
      have hb1 := bulks_len (ess.take k) (by have := tot_le ess k; omega)
      have hb2 := tot_le ess k
      have hb3 := tot_le ess (k + 1)
      have hb4 := tot_take ess k (by omega)
      have HL : Hid ((xs ++ hdr 42 ess.length ++ bulks (ess.take k)).length + (ess.getD k []).length + 100 ≤ 140737488355328) := by
        show _ + _ + _ ≤ _
        rw [List.length_append, List.length_append]; omega
      clear hx hr hlb hb1 hb2 hb3 hb4
      go_wp2_with (first
        | (go_at_call 27; refine (bulk_any B _ _ e1 _ wr HO.out HR.out (Nat.le_trans hB HB.out.size) HL.out (HT.out.on HB.out)).mono ?_; rintro e w2 ⟨v2, rfl, ho2, hbb2⟩; have HO2 := hid ho2; have HB2 := hid (HB.out.trans hbb2); clear ho2 hbb2))
      go_roundw
      case rel =>
        refine ⟨k + 1, by omega, by go_num, ?_, HB2⟩
        have := HO2.out
        rw [bulks_take ess k (by omega), ← List.append_assoc]
        exact this
      case measure => simp [intOf]; omega
    · go_wp2
      go_ret
      refine ⟨_, rfl, ?_, HB.out⟩
      have := HO.out
      rw [List.take_of_length_le (by omega)] at this
      unfold wire
      rw [← List.append_assoc]
      exact this
end Go.Proofs.Qxb6608909aDoor
