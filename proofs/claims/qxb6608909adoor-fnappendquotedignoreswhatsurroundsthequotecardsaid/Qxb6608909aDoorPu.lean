import Derived.Test.Qxb6608909aDoorHex
import Derived.Laws.IdiomStrings
import Derived.Laws.BytesArg
namespace Go.Proofs.Qxb6608909aDoor
open Go.RowKit

theorem hid' {p : Prop} (h : p) : Hid p := h
theorem ret_pu {a b : Int} (h : a = b) : Ending.returned (.tuple #[.int .u64 a, .nilIface]) = .returned (.tuple #[.int .u64 b, .nilIface]) := by rw [h]

theorem val_u64 {a b : Int} (h : a = b) : Value.int .u64 a = Value.int .u64 b := by rw [h]

theorem hexv_bd {c : Int} (h : hexB c = true) : 0 ≤ hexv c ∧ hexv c ≤ 15 := by
  simp [hexB] at h; unfold hexv; split <;> (try split) <;> omega

/-- the number that has been read behind k digits -/
def puv (c1 c2 : Int) : Nat → Int
  | 0 => 0
  | 1 => hexv c1
  | _ => hexv c1 * 16 + hexv c2

theorem hex_split {c : Int} (h : hexB c = true) : (48 ≤ c ∧ c ≤ 57 ∧ hexv c = c - 48) ∨ (((65 ≤ c ∧ c ≤ 70) ∨ (97 ≤ c ∧ c ≤ 102)) ∧ 57 < c ∧ 10 ≤ hexv c) := by
  simp [hexB] at h; unfold hexv; split <;> (try split) <;> omega

theorem conv_two (s : ByteArray) (c1 c2 : Int) (hs : s.data.toList.map (fun b => (b.toNat : Int)) = [c1, c2]) (w : World) :
    ∃ cap w1, (convert 9 22 (.string s)).run Tryd.prog w = .ok (.slice (some ⟨w.heap.size, 0, none⟩) 2 cap) w1 ∧ w1.cell? ⟨w.heap.size, 0, none⟩ = some (.int .u8 c1) ∧ w1.cell? ⟨w.heap.size, 1, none⟩ = some (.int .u8 c2) ∧ Below w.heap.size w w1 := by
  have h := run_bytes_of_string (P := Tryd.prog) w 9 22 5 s Tryd.underlying9 Tryd.underlying22 Tryd.underlying5
  have hl : s.size = 2 := by have := congrArg List.length hs; simpa using this
  have he : s.data.map (fun b => Value.int .u8 b.toNat) = #[.int .u8 c1, .int .u8 c2] := by
    apply Array.ext'
    rw [Array.toList_map]
    have : s.data.toList.map (fun b => Value.int .u8 b.toNat) = (s.data.toList.map (fun b => (b.toNat : Int))).map (Value.int .u8) := by rw [List.map_map]; rfl
    rw [this, hs]; rfl
  refine ⟨_, _, by rw [h, hl], ?_, ?_, (Below.refl _ _).drew.alloc (Nat.le_refl _) _⟩
  · have := World.cell?_alloc_mark w.drew (bytesRow s (grownCap w 2 0 5)) 5 ((bytesRow s (grownCap w 2 0 5)).size, (bytesRow s (grownCap w 2 0 5)).size + 1) 0
    refine this.trans ?_
    unfold bytesRow
    rw [he]
    rw [Array.getElem?_append_left (by simp)]
    rfl
  · have := World.cell?_alloc_mark w.drew (bytesRow s (grownCap w 2 0 5)) 5 ((bytesRow s (grownCap w 2 0 5)).size, (bytesRow s (grownCap w 2 0 5)).size + 1) 1
    refine this.trans ?_
    unfold bytesRow
    rw [he]
    rw [Array.getElem?_append_left (by simp)]
    rfl

set_option maxHeartbeats 2000000 in
set_option maxRecDepth 100000 in
theorem pu_any (s : ByteArray) (c1 c2 : Int) (hs : s.data.toList.map (fun b => (b.toNat : Int)) = [c1, c2]) (h1 : hexB c1 = true) (h2 : hexB c2 = true) (w : World) :
    Calls Tryd.prog 41 #[.string s, .int .i64 16, .int .i64 8] w fun e w' => e = .returned (.tuple #[.int .u64 (hexv c1 * 16 + hexv c2), .nilIface]) ∧ Below w.heap.size w w' := by
  obtain ⟨cap, w1, hconv, hc1, hc2, hbel⟩ := conv_two s c1 c2 hs w
  have hem : s.toList.isEmpty = false := by
    rw [ByteArray.toList_eq]
    cases hh : s.data.toList with
    | nil => rw [hh] at hs; simp at hs
    | cons a l => rfl
  have HB := hid' hbel
  clear hbel hs
  have b1 := hexv_bd h1
  have b2 := hexv_bd h2
  go_enter Tryd.func41, Tryd.ntmps41
  go_wp2
  go_loop [12, 13, 101] (fun u n i => ∃ k : Nat, k ≤ 2 ∧ i = .int .i64 k ∧ u = .bool false ∧ n = .int .u64 (puv c1 c2 k)) (fun _ _ i => 2 - (intOf i).toNat)
  case atStart => exact ⟨0, by omega, rfl, rfl, rfl⟩
  case round =>
    obtain ⟨k, hk, rfl, rfl, rfl⟩ := hrel
    match k, hk with
    | 0, _ =>
      have e0 : puv c1 c2 0 = 0 := rfl
      rw [e0]
      rcases hex_split h1 with ⟨ha, hb, hv⟩ | ⟨hl, ha, hb⟩
      · clear h1 h2
        go_wp2
        exact ⟨⟨1, by omega, rfl, rfl, val_u64 (by show _ = hexv c1; omega)⟩, by simp [intOf]⟩
      · clear h1 h2
        go_wp2_with (go_at_call 44; refine (lower_any c1 _ hl).mono ?_; rintro e w' ⟨rfl, hw⟩; have hw2 := hw.symm; clear hw; subst hw2)
        exact ⟨⟨1, by omega, rfl, rfl, val_u64 (by show _ = hexv c1; omega)⟩, by simp [intOf]⟩
    | 1, _ =>
      have e0 : puv c1 c2 1 = hexv c1 := rfl
      rw [e0]
      have E2 : Hid (puv c1 c2 2 = hexv c1 * 16 + hexv c2) := rfl
      obtain ⟨V, hV⟩ : ∃ V, V = hexv c1 := ⟨_, rfl⟩
      rw [← hV] at b1 E2 ⊢
      clear hV e0
      rcases hex_split h2 with ⟨ha, hb, hv⟩ | ⟨hl, ha, hb⟩
      · clear h1 h2
        go_wp2
        exact ⟨⟨2, by omega, rfl, rfl, val_u64 (by rw [E2.out]; omega)⟩, by simp [intOf]⟩
      · clear h1 h2
        go_wp2_with (go_at_call 44; refine (lower_any c2 _ hl).mono ?_; rintro e w' ⟨rfl, hw⟩; have hw2 := hw.symm; clear hw; subst hw2)
        exact ⟨⟨2, by omega, rfl, rfl, val_u64 (by rw [E2.out]; omega)⟩, by simp [intOf]⟩
    | 2, _ =>
      have E2 : Hid (puv c1 c2 2 = hexv c1 * 16 + hexv c2) := rfl
      obtain ⟨V, hV⟩ : ∃ V, V = puv c1 c2 2 := ⟨_, rfl⟩
      rw [← hV] at E2 ⊢
      clear hV
      go_wp2
      go_ret2
      exact ⟨ret_pu E2.out, HB.out⟩
    | k + 3, hk => omega

set_option maxHeartbeats 1000000 in
theorem parseUint_any (c1 c2 : Int) (r1 : 0 ≤ c1 ∧ c1 ≤ 255) (r2 : 0 ≤ c2 ∧ c2 ≤ 255) (h1 : hexB c1 = true) (h2 : hexB c2 = true) (w : World) :
    Calls Tryd.prog 38 #[.string (strOfNums [c1, c2]), .int .i64 16, .int .i64 8] w fun e w' => e = .returned (.tuple #[.int .u64 (hexv c1 * 16 + hexv c2), .nilIface]) ∧ Below w.heap.size w w' := by
  have hs : (strOfNums [c1, c2]).data.toList.map (fun b => (b.toNat : Int)) = [c1, c2] := by
    rw [strOfNums_data]
    simp [UInt8.toNat_ofNat']
    omega
  have HP := hid' (pu_any (strOfNums [c1, c2]) c1 c2 hs h1 h2 w)
  obtain ⟨s, hS⟩ : ∃ s, s = strOfNums [c1, c2] := ⟨_, rfl⟩
  rw [← hS] at HP ⊢
  obtain ⟨V, hV⟩ : ∃ V, V = hexv c1 * 16 + hexv c2 := ⟨_, rfl⟩
  rw [← hV] at HP ⊢
  clear hS hs hV h1 h2
  go_enter Tryd.func38, Tryd.ntmps38
  go_wp2_with (go_at_call 41; refine HP.out.mono ?_; rintro e w1 ⟨rfl, hb⟩; have HB := hid' hb; clear hb)
  go_ret2
  exact ⟨rfl, HB.out⟩
end Go.Proofs.Qxb6608909aDoor
