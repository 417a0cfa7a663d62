import Derived.Test.Qxb6609120aDoorShelf
import Derived.Lib.VarintBits
namespace Go.Proofs.Qxb6609120aDoor
open Go.RowKit Go.Joins

def IsB (e : Ending) : Prop := ∃ b, e = .returned (.bool b)

set_option maxHeartbeats 1000000 in
theorem zzBytes_any (B1 B2 : Nat) (vx vy : Value) (xs ys : List Int) (w : World) (hx : Rd .u64 B1 w vx xs) (hy : Rd .u64 B2 w vy ys) :
    Calls Tryd.prog 7 #[vx, vy] w fun e w' => IsB e ∧ w' = w := by
  obtain ⟨ao, cap, rfl, hl1, hm1, -, -⟩ := hx
  obtain ⟨ao2, cap2, rfl, hl2, hm2, -, -⟩ := hy
  go_enter Tryd.func7, Tryd.ntmps7
  go_wp2
  all_goals go_ret
  all_goals exact ⟨⟨_, rfl⟩, rfl⟩

set_option maxRecDepth 100000 in
theorem zzJoinU64_any (vx vy : Value) (xs ys : List Int) (w : World) (hx : Rd .u64 w.heap.size w vx xs) (hy : Rd .u64 w.heap.size w vy ys) (hn : xs.length ≤ 65536) (hm : ys.length ≤ 65536) :
    Calls Tryd.prog 8 #[vx, vy] w fun e w' => ∃ v', e = .returned v' ∧ Own 29 .u64 w.heap.size w' v' (xs ++ ys) ∧ Below w.heap.size w w' := by
  obtain ⟨i0, hi, hz0, hz1, hz2⟩ := info_parts info29
  have HX := hid hx
  have HY := hid hy
  obtain ⟨ao, cap, rfl, hl1, hm1, -, -⟩ := hx
  obtain ⟨ao2, cap2, rfl, hl2, hm2, -, -⟩ := hy
  go_enter Tryd.func8, Tryd.ntmps8
  go_wp2_with (first
    | (at_make; refine wpList_make_own _ rfl (.const (.int .i64 0)) (.tmp 10) 22 rfl w.heap.size 29 i0 (.int .u64 0) 1 Tryd.underlying22 hi hz0 hz1 .i64 .i64 _ (xs.length + ys.length) rfl rfl (by go_num) (by rw [hz2]; omega) (by unfold maxLen; omega) (Nat.le_refl _) ?_; intro w1 hown hgr; have hbel : Below w.heap.size w w1 := (Below.refl _ _).grown hgr (Nat.le_refl _) (by simp); have HO : Hid (Own 29 .u64 w.heap.size w1 (.slice (some ⟨w.heap.size, 0, none⟩) 0 (xs.length + ys.length)) []) := hown; have HB := hid hbel; clear hown hgr hbel)
    | (at_builtin; refine wpAppOwn Tryd.underlying22 info29 rfl (.tmp 12) (.tmp 13) rfl w.heap.size w.heap.size [] xs _ _ rfl rfl HO.out (HX.out.below HB.out) (by simp; omega) (by simp; omega) HB.out.size w HB.out ?_; intro v2 w2 ho2 hb2; have HO2 := hid ho2; have HB2 := hid hb2; clear ho2 hb2)
    | (at_builtin; refine wpAppOwn Tryd.underlying22 info29 rfl (.tmp 15) (.tmp 16) rfl w.heap.size w.heap.size ([] ++ xs) ys _ _ rfl rfl HO2.out (HY.out.below HB2.out) (by simp; omega) (by simp; omega) HB2.out.size w HB2.out ?_; intro v3 w3 ho3 hb3; have HO3 := hid ho3; have HB3 := hid hb3; clear ho3 hb3))
  go_ret
  exact ⟨v3, rfl, HO3.out, HB3.out⟩

set_option maxRecDepth 100000 in
theorem zzJoinBytes_any (vx vy : Value) (xs ys : List Int) (w : World) (hx : Rd .u8 w.heap.size w vx xs) (hy : Rd .u8 w.heap.size w vy ys) (hn : xs.length ≤ 1000000) (hm : ys.length ≤ 1000000) :
    Calls Tryd.prog 14 #[vx, vy] w fun e w' => ∃ v', e = .returned v' ∧ Own 5 .u8 w.heap.size w' v' (xs ++ ys) ∧ Below w.heap.size w w' := by
  obtain ⟨i0, hi, hz0, hz1, hz2⟩ := info_parts info5
  have HX := hid hx
  have HY := hid hy
  obtain ⟨ao, cap, rfl, hl1, hm1, -, -⟩ := hx
  obtain ⟨ao2, cap2, rfl, hl2, hm2, -, -⟩ := hy
  go_enter Tryd.func14, Tryd.ntmps14
  go_wp2_with (first
    | (at_make; refine wpList_make_own _ rfl (.const (.int .i64 0)) (.tmp 10) 25 rfl w.heap.size 5 i0 (.int .u8 0) 1 Tryd.underlying25 hi hz0 hz1 .i64 .i64 _ (xs.length + ys.length) rfl rfl (by go_num) (by rw [hz2]; omega) (by unfold maxLen; omega) (Nat.le_refl _) ?_; intro w1 hown hgr; have hbel : Below w.heap.size w w1 := (Below.refl _ _).grown hgr (Nat.le_refl _) (by simp); have HO : Hid (Own 5 .u8 w.heap.size w1 (.slice (some ⟨w.heap.size, 0, none⟩) 0 (xs.length + ys.length)) []) := hown; have HB := hid hbel; clear hown hgr hbel)
    | (at_builtin; refine wpAppOwn Tryd.underlying25 info5 rfl (.tmp 12) (.tmp 13) rfl w.heap.size w.heap.size [] xs _ _ rfl rfl HO.out (HX.out.below HB.out) (by simp; omega) (by simp; omega) HB.out.size w HB.out ?_; intro v2 w2 ho2 hb2; have HO2 := hid ho2; have HB2 := hid hb2; clear ho2 hb2)
    | (at_builtin; refine wpAppOwn Tryd.underlying25 info5 rfl (.tmp 15) (.tmp 16) rfl w.heap.size w.heap.size ([] ++ xs) ys _ _ rfl rfl HO2.out (HY.out.below HB2.out) (by simp; omega) (by simp; omega) HB2.out.size w HB2.out ?_; intro v3 w3 ho3 hb3; have HO3 := hid ho3; have HB3 := hid hb3; clear ho3 hb3))
  go_ret
  exact ⟨v3, rfl, HO3.out, HB3.out⟩

/-- the varints of the numbers, one behind the other -/
def flat (ids : List Int) : List Int := ids.flatMap fun x => uv x.toNat
theorem uv_len_le (x : Nat) (hx : x < 18446744073709551616) : (uv x).length ≤ 10 := by rw [uv_length]; exact Lib.uvarint_length64 hx
/-- the numbers are of 64 bits -/
def U64s (ids : List Int) : Prop := ∀ k, k < ids.length → 0 ≤ ids.getD k 0 ∧ ids.getD k 0 < 18446744073709551616
theorem flat_app (a b : List Int) : flat (a ++ b) = flat a ++ flat b := by unfold flat; rw [List.flatMap_append]
theorem flat_take (ids : List Int) (k : Nat) (h : k < ids.length) : flat (ids.take (k + 1)) = flat (ids.take k) ++ uv (ids.getD k 0).toNat := by
  have : ids.take (k + 1) = ids.take k ++ [ids.getD k 0] := by
    rw [List.take_succ_eq_append_getElem h, List.getD_eq_getElem?_getD, List.getElem?_eq_getElem h]; rfl
  rw [this, flat_app]; unfold flat; simp
theorem flat_take_len (ids : List Int) (hu : U64s ids) : ∀ k, k ≤ ids.length → (flat (ids.take k)).length ≤ 10 * k
  | 0, _ => by simp [flat]
  | k + 1, h => by
    have := flat_take_len ids hu k (by omega)
    have h2 := hu k (by omega)
    have := uv_len_le (ids.getD k 0).toNat (by omega)
    rw [flat_take ids k (by omega), List.length_append]; omega
theorem flat_len (ids : List Int) (hu : U64s ids) : (flat ids).length ≤ 10 * ids.length := by
  have := flat_take_len ids hu ids.length (Nat.le_refl _)
  rwa [List.take_length] at this

/-- what appendIDs lays -/
def idb (ids : List Int) : List Int := uv ids.length ++ flat ids

set_option maxRecDepth 100000 in
theorem appendIDs_any (B : Nat) (v : Value) (zs : List Int) (vi : Value) (ids : List Int) (w : World) (hown : Own 5 .u8 B w v zs) (hi : Rd .u64 B w vi ids) (hu : U64s ids) (hB : B ≤ w.heap.size) (hz : zs.length ≤ 1000) (hn : ids.length ≤ 1048576) :
    Calls Tryd.prog 59 #[v, vi] w fun e w' => ∃ v', e = .returned v' ∧ Own 5 .u8 B w' v' (zs ++ idb ids) ∧ Below B w w' := by
  have HO0 := hid hown
  have HU := hid hu
  obtain ⟨ao, cap, rfl, hl1, hm1, -, hc⟩ := hi
  have HC := hid hc
  have HF := hid (flat_take_len ids hu)
  have hul := uv_len_le ids.length (by omega)
  have hconv : IntKind.u64.wrap (ids.length : Int) = ids.length := u64_wrap_id _ (by omega) (by omega)
  clear hown hu hc
  go_enter Tryd.func59, Tryd.ntmps59
  go_wp2_with (first
    | (go_at_call 56; refine (appendUvarint B ids.length (by omega) v zs w HO0.out hB (by omega)).mono ?_; rintro e w1 ⟨v1, rfl, ho1, hb1⟩; have HO1 := hid ho1; have HB1 := hid hb1; clear ho1 hb1))
  go_loopw [0, 14] (fun v i wr => ∃ k : Nat, k ≤ ids.length ∧ i = .int .i64 k ∧ Hid (Own 5 .u8 B wr v (zs ++ uv ids.length ++ flat (ids.take k))) ∧ Hid (Below B w wr)) (fun _ i _ => ids.length - (intOf i).toNat)
  case atStart => exact ⟨0, Nat.zero_le _, rfl, by simpa [flat] using HO1, HB1⟩
  case round =>
    obtain ⟨k, hk, rfl, HO, HB⟩ := hrel
    by_cases hlt : (k : Int) < ids.length
    · obtain ⟨b, off, rfl, hlb, hx⟩ := HC.out k (by omega)
      have hx2 := (HB.out.cell (p := ⟨b, off + k, none⟩) hlb).trans hx
      have hub := HU.out k (by omega)
      obtain ⟨y, hy⟩ : ∃ y : Nat, ids.getD k 0 = y := ⟨(ids.getD k 0).toNat, by omega⟩
      have hft := flat_take ids k (by omega)
      have hfl := HF.out k hk
      rw [hy] at hx hx2 hub hft
      have HL : Hid ((zs ++ uv ids.length ++ flat (ids.take k)).length + 10 ≤ 140737488355328) := by
        show _ ≤ _
        simp only [List.length_append]; omega
      have HS := hid HB.out.size
      have hyb : y < 18446744073709551616 := by omega
      have HFT := hid hft
      clear hft hfl hy hx
      go_wp2_with (first
        | (go_at_call 56; refine (appendUvarint B y hyb _ _ _ HO.out (by have := HS.out; omega) HL.out).mono ?_; rintro e w2 ⟨v2, rfl, ho2, hb2⟩; have HO2 := hid ho2; have HB2 := hid (HB.out.trans hb2); clear ho2 hb2))
      go_roundw
      case rel =>
        refine ⟨k + 1, by omega, by go_num, hid ?_, HB2⟩
        have h := HO2.out
        rw [HFT.out]
        simpa [List.append_assoc] using h
      case measure => simp [intOf]; omega
    · have hke : k = ids.length := by omega
      subst hke
      go_wp2
      go_ret
      refine ⟨_, rfl, ?_, HB.out⟩
      have h := HO.out
      rw [List.take_length] at h
      unfold idb
      rw [← List.append_assoc]; exact h

/-- p points at an edit of kind 4 whose collect is vi -/
def Ed (B : Nat) (w : World) (p vi : Value) : Prop := ∃ g, p = .pointer (some ⟨g, 0, none⟩) ∧ g < B ∧ w.cell? ⟨g, 0, none⟩ = some (.int .u8 4) ∧ w.cell? ⟨g, 4, none⟩ = some vi

set_option maxRecDepth 100000 in
theorem newEdit_any (ao : Option Addr) (n cap : Nat) (w : World) :
    Calls Tryd.prog 10 #[.int .u8 4, .int .u64 0, .slice none 0 0, .slice ao n cap, .slice none 0 0, .int .i64 0, .int .i64 0] w fun e w' => ∃ p, e = .returned p ∧ Ed w'.heap.size w' p (.slice ao n cap) ∧ Below w.heap.size w w' := by
  go_enter Tryd.func10, Tryd.ntmps10
  go_wp2
  go_ret
  exact ⟨_, rfl, ⟨w.heap.size, rfl, by simp, by simp, by simp⟩, (Below.refl _ _).alloc (Nat.le_refl _) _⟩

set_option maxRecDepth 100000 in
theorem appendEdit_any (p vi : Value) (ids : List Int) (w : World) (he : Ed w.heap.size w p vi) (hi : Rd .u64 w.heap.size w vi ids) (hu : U64s ids) (hn : ids.length ≤ 1048576) :
    Calls Tryd.prog 43 #[.slice none 0 0, p] w fun e w' => ∃ v', e = .returned v' ∧ Own 5 .u8 w.heap.size w' v' (4 :: idb ids) ∧ Below w.heap.size w w' := by
  obtain ⟨g, rfl, hg, hc0, hc4⟩ := he
  have HI := hid hi
  have HU := hid hu
  have hz : Below w.heap.size w (w.alloc (.cells #[.int .u8 4] 5)) := (Below.refl _ _).alloc (Nat.le_refl _) _
  clear hi hu
  go_enter Tryd.func43, Tryd.ntmps43
  go_wp2_with (first
    | (at_builtin; refine wpAppOwn Tryd.underlying25 info5 rfl (.tmp 8) (.tmp 13) rfl w.heap.size (w.heap.size + 1) [] [4] _ _ rfl rfl (own_nil _ _ _) (Rd_new1 _ _ _) (by simp) (by simp) (by simp) w hz ?_; intro v2 w2 ho2 hb2; have HO2 := hid ho2; have HB2 := hid hb2; have k0 := (hb2.cell (p := ⟨g, 0, none⟩) hg).trans hc0; have k4 := (hb2.cell (p := ⟨g, 4, none⟩) hg).trans hc4; clear ho2 hb2)
    | (go_at_call 59; refine (appendIDs_any w.heap.size v2 ([] ++ [4]) vi ids w2 HO2.out (HI.out.below HB2.out) HU.out HB2.out.size (by simp) hn).mono ?_; rintro e w3 ⟨v3, rfl, ho3, hb3⟩; have HO3 := hid ho3; have HB3 := hid (HB2.out.trans hb3); clear ho3 hb3))
  go_ret
  exact ⟨v3, rfl, HO3.out, HB3.out⟩

theorem encodeEdit_any (p vi : Value) (ids : List Int) (w : World) (he : Ed w.heap.size w p vi) (hi : Rd .u64 w.heap.size w vi ids) (hu : U64s ids) (hn : ids.length ≤ 1048576) :
    Calls Tryd.prog 9 #[p] w fun e w' => ∃ v', e = .returned v' ∧ Own 5 .u8 w.heap.size w' v' (4 :: idb ids) ∧ Below w.heap.size w w' := by
  have H := hid (appendEdit_any p vi ids w he hi hu hn)
  clear he hi hu
  have H31 : Calls Tryd.prog 31 #[p] w fun e w' => ∃ v', e = .returned v' ∧ Own 5 .u8 w.heap.size w' v' (4 :: idb ids) ∧ Below w.heap.size w w' := by
    go_enter Tryd.func31, Tryd.ntmps31
    go_wp2_with (go_at_call 43; refine H.out.mono ?_; rintro e w3 ⟨v3, rfl, ho3, hb3⟩; have HO3 := hid ho3; have HB3 := hid hb3; clear ho3 hb3)
    go_ret
    exact ⟨v3, rfl, HO3.out, HB3.out⟩
  have H2 := hid H31
  clear H31 H
  go_enter Tryd.func9, Tryd.ntmps9
  go_wp2_with (go_at_call 31; refine H2.out.mono ?_; rintro e w3 ⟨v3, rfl, ho3, hb3⟩; have HO3 := hid ho3; have HB3 := hid hb3; clear ho3 hb3)
  go_ret
  exact ⟨v3, rfl, HO3.out, HB3.out⟩
end Go.Proofs.Qxb6609120aDoor
