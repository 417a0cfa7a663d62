import Derived.Test.Qxb6608909aDoorShelf
import Derived.Lib.ItoaLen
namespace Go.Proofs.Qxb6608909aDoor
open Go.RowKit

theorem dec_len (m : Nat) (h : m ≤ 9223372036854775807) : (dec m).length ≤ 20 := by
  unfold dec
  rw [List.length_map, Lib.decDigits_length]
  exact Lib.nDigits_le20 m (by omega)

/-- the line that opens an array or a bulk string -/
def hdr (c : Int) (m : Nat) : List Int := c :: dec m ++ [13, 10]

set_option maxRecDepth 100000 in
theorem arrHdr_any (B m : Nat) (hm : m ≤ 9223372036854775807) (v : Value) (xs : List Int) (w : World) (hbuf : Buf B w v xs) (hB : B ≤ w.heap.size) (hlim : xs.length + 64 ≤ 140737488355328) (htab : Pow B w) :
    Calls Tryd.prog 26 #[v, .int .i64 m] w fun e w' => ∃ v', e = .returned v' ∧ Own B w' v' (xs ++ hdr 42 m) ∧ Below B w w' := by
  have hdl := dec_len m hm
  have HT := hid htab
  have HBUF := hid hbuf
  clear htab hbuf
  go_enter Tryd.func26, Tryd.ntmps26
  go_wp2_with (first
    | (at_builtin; refine wpAppBuf rfl (.tmp 5) (.tmp 6) rfl B _ xs [42] v _ rfl rfl (HBUF.out.alloc hB _) (Rd_new1 w 42) (by simp) (by simp; omega) (by simp; omega) w ((Below.refl _ _).alloc hB _) ?_; intro v1 w1 ho1 hb1; have HO1 := hid ho1; have HB1 := hid hb1; clear ho1 hb1)
    | (go_at_call 35; refine (appendInt_any B m hm v1 (xs ++ [42]) w1 HO1.out (Nat.le_trans hB HB1.out.size) (by simp; omega) (HT.out.on HB1.out)).mono ?_; rintro e w2 ⟨v2, rfl, ho2, hb2⟩; have HO2 := hid ho2; have HB2 := hid (HB1.out.trans hb2); clear ho2 hb2)
    | (at_builtin; refine wpAppOwn rfl (.tmp 11) (.tmp 12) rfl B _ (xs ++ [42] ++ dec m) [13, 10] v2 _ rfl rfl (HO2.out.alloc _) (Rd_new2 w2 13 10) (by simp; omega) (by have := HB2.out.size; simp; omega) w (HB2.out.alloc (Nat.le_trans hB HB2.out.size) _) ?_; intro v3 w3 ho3 hb3 _; have HO3 := hid ho3; have HB3 := hid hb3; clear ho3 hb3))
  go_ret
  exact ⟨_, rfl, by have := HO3.out; simpa [hdr] using this, HB3.out⟩

set_option maxRecDepth 100000 in
theorem bulkHdr_any (B m : Nat) (hm : m ≤ 9223372036854775807) (v : Value) (xs : List Int) (w : World) (hbuf : Buf B w v xs) (hB : B ≤ w.heap.size) (hlim : xs.length + 64 ≤ 140737488355328) (htab : Pow B w) :
    Calls Tryd.prog 36 #[v, .int .i64 m] w fun e w' => ∃ v', e = .returned v' ∧ Own B w' v' (xs ++ hdr 36 m) ∧ Below B w w' := by
  have hdl := dec_len m hm
  have HT := hid htab
  have HBUF := hid hbuf
  clear htab hbuf
  go_enter Tryd.func36, Tryd.ntmps36
  go_wp2_with (first
    | (at_builtin; refine wpAppBuf rfl (.tmp 5) (.tmp 6) rfl B _ xs [36] v _ rfl rfl (HBUF.out.alloc hB _) (Rd_new1 w 36) (by simp) (by simp; omega) (by simp; omega) w ((Below.refl _ _).alloc hB _) ?_; intro v1 w1 ho1 hb1; have HO1 := hid ho1; have HB1 := hid hb1; clear ho1 hb1)
    | (go_at_call 35; refine (appendInt_any B m hm v1 (xs ++ [36]) w1 HO1.out (Nat.le_trans hB HB1.out.size) (by simp; omega) (HT.out.on HB1.out)).mono ?_; rintro e w2 ⟨v2, rfl, ho2, hb2⟩; have HO2 := hid ho2; have HB2 := hid (HB1.out.trans hb2); clear ho2 hb2)
    | (at_builtin; refine wpAppOwn rfl (.tmp 11) (.tmp 12) rfl B _ (xs ++ [36] ++ dec m) [13, 10] v2 _ rfl rfl (HO2.out.alloc _) (Rd_new2 w2 13 10) (by simp; omega) (by have := HB2.out.size; simp; omega) w (HB2.out.alloc (Nat.le_trans hB HB2.out.size) _) ?_; intro v3 w3 ho3 hb3 _; have HO3 := hid ho3; have HB3 := hid hb3; clear ho3 hb3))
  go_ret
  exact ⟨_, rfl, by have := HO3.out; simpa [hdr] using this, HB3.out⟩

/-- a bulk string -/
def bulk (e : List Int) : List Int := hdr 36 e.length ++ e ++ [13, 10]

theorem hdr_len (c : Int) (m : Nat) (h : m ≤ 9223372036854775807) : (hdr c m).length ≤ 23 := by
  have := dec_len m h; unfold hdr; simp; omega

set_option maxRecDepth 100000 in
theorem bulk_any (B : Nat) (v : Value) (xs : List Int) (ev : Value) (ys : List Int) (w : World) (hbuf : Own B w v xs) (hev : Rd B w ev ys) (hB : B ≤ w.heap.size) (hlim : xs.length + ys.length + 100 ≤ 140737488355328) (htab : Pow B w) :
    Calls Tryd.prog 27 #[v, ev] w fun e w' => ∃ v', e = .returned v' ∧ Own B w' v' (xs ++ bulk ys) ∧ Below B w w' := by
  have hdl := hdr_len 36 ys.length (by omega)
  have HT := hid htab
  have HBUF := hid hbuf
  have HEV := hid hev
  obtain ⟨ao, cap, rfl, hl, hm, -, -⟩ := hev
  clear htab hbuf
  go_enter Tryd.func27, Tryd.ntmps27
  go_wp2_with (first
    | (go_at_call 36; refine (bulkHdr_any B ys.length (by omega) v xs w (.inl HBUF.out) hB (by omega) HT.out).mono ?_; rintro e w1 ⟨v1, rfl, ho1, hb1⟩; have HO1 := hid ho1; have HB1 := hid hb1; clear ho1 hb1)
    | (at_builtin; refine wpAppOwn rfl (.tmp 9) (.tmp 10) rfl B _ (xs ++ hdr 36 ys.length) ys v1 _ rfl rfl HO1.out (HEV.out.below HB1.out) (by simp; omega) (Nat.le_trans hB HB1.out.size) w HB1.out ?_; intro v2 w2 ho2 hb2 _; have HO2 := hid ho2; have HB2 := hid hb2; clear ho2 hb2)
    | (at_builtin; refine wpAppOwn rfl (.tmp 12) (.tmp 13) rfl B _ (xs ++ hdr 36 ys.length ++ ys) [13, 10] v2 _ rfl rfl (HO2.out.alloc _) (Rd_new2 w2 13 10) (by simp; omega) (by have := HB2.out.size; simp; omega) w (HB2.out.alloc (Nat.le_trans hB HB2.out.size) _) ?_; intro v3 w3 ho3 hb3 _; have HO3 := hid ho3; have HB3 := hid hb3; clear ho3 hb3))
  go_ret
  exact ⟨_, rfl, by have := HO3.out; simpa [bulk] using this, HB3.out⟩
end Go.Proofs.Qxb6608909aDoor
