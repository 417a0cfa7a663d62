import Derived.Test.Qxb6609120aDoorEnc
import Derived.Lib.VarintDec
import Derived.Laws.Closers25b
namespace Go.Proofs.Qxb6609120aDoor
open Go.RowKit Go.Joins

theorem uv_small {y : Nat} (h : y < 128) : uv y = [(y : Int)] := by
  unfold uv
  rw [Lib.uvarint_small h]
  simp
  omega
theorem uv_big {y : Nat} (h : 128 ≤ y) : uv y = ((y % 128 + 128 : Nat) : Int) :: uv (y / 128) := by
  unfold uv
  rw [Lib.uvarint_big h]
  simp
  omega

theorem getD_of_drop {bs r : List Int} {n : Nat} {c : Int} (h : bs.drop n = c :: r) : n < bs.length ∧ bs.getD n 0 = c ∧ bs.drop (n + 1) = r := by
  have hl : n < bs.length := by
    by_cases hl : n < bs.length
    · exact hl
    · rw [List.drop_eq_nil_of_le (by omega)] at h; simp at h
  have e := List.drop_eq_getElem_cons hl
  rw [e] at h
  simp only [List.cons.injEq] at h
  refine ⟨hl, ?_, h.2⟩
  rw [List.getD_eq_getElem?_getD, List.getElem?_eq_getElem hl]
  exact h.1

theorem ret_uib {a b c d : Int} (h : a = b) (h2 : c = d) : Ending.returned (.tuple #[.int .u64 a, .int .i64 c, .bool true]) = .returned (.tuple #[.int .u64 b, .int .i64 d, .bool true]) := by rw [h, h2]

/-- what stands at the reader's round k: acc is read, y is left -/
def RdI (X i0 k y : Nat) (bs rest : List Int) : Prop := bs.drop (i0 + k) = uv y ++ rest ∧ (uv X).length = k + (uv y).length

theorem RdI.small {X i0 k y : Nat} {bs rest : List Int} (h : RdI X i0 k y bs rest) (hy : y < 128) : i0 + k < bs.length ∧ bs.getD (i0 + k) 0 = (y : Int) ∧ (uv X).length = k + 1 := by
  have h1 := h.1
  have h2 := h.2
  rw [uv_small hy] at h1 h2
  have := getD_of_drop h1
  exact ⟨this.1, this.2.1, by simpa using h2⟩
theorem RdI.big {X i0 k y : Nat} {bs rest : List Int} (h : RdI X i0 k y bs rest) (hy : 128 ≤ y) : i0 + k < bs.length ∧ bs.getD (i0 + k) 0 = ((y % 128 + 128 : Nat) : Int) ∧ RdI X i0 (k + 1) (y / 128) bs rest := by
  have h1 := h.1
  have h2 := h.2
  rw [uv_big hy] at h1 h2
  have := getD_of_drop h1
  refine ⟨this.1, this.2.1, this.2.2, ?_⟩
  simp only [List.length_cons] at h2
  omega

set_option maxHeartbeats 32000000 in
set_option maxRecDepth 100000 in
theorem zzReadUvarint_any (B : Nat) (v : Value) (bs rest : List Int) (i0 X : Nat) (w : World) (hX : X < 18446744073709551616) (hb : Rd .u8 B w v bs) (hi0 : i0 ≤ 1000000000) (hbs : bs.drop i0 = uv X ++ rest) :
    Calls Tryd.prog 32 #[v, .int .i64 i0] w fun e w' => e = .returned (.tuple #[.int .u64 X, .int .i64 ((i0 + (uv X).length : Nat) : Int), .bool true]) ∧ w' = w := by
  have hpos : 0 < bs.length := by
    by_cases h : 0 < bs.length
    · exact h
    · have e : bs = [] := List.length_eq_zero_iff.1 (by omega)
      have := Lib.uvarint_pos X
      have h2 := congrArg List.length hbs
      rw [e] at h2
      simp [uv_length] at h2
      omega
  obtain ⟨b, off, cap, rfl, hl, hm, hbB, hc⟩ := hb.cells hpos
  obtain ⟨L, hL⟩ : ∃ L, L = (uv X).length := ⟨_, rfl⟩
  rw [← hL]
  have HL := hid hL
  clear hL
  have HC := hid hc
  clear hc hb hpos
  have HI0 : Hid (RdI X i0 0 X bs rest) := ⟨hbs, by omega⟩
  clear hbs
  go_enter Tryd.func32, Tryd.ntmps32
  go_wp2
  go_loop [1, 7, 8, 9] (fun vi vx vs vk => ∃ k acc y : Nat, vi = .int .i64 ((i0 + k : Nat) : Int) ∧ vk = .int .i64 k ∧ vs = .int .u64 ((7 * k : Nat) : Int) ∧ vx = .int .u64 acc ∧ k ≤ 9 ∧ acc < 2 ^ (7 * k) ∧ X = acc + y * 2 ^ (7 * k) ∧ (0 < k → 0 < y) ∧ Hid (RdI X i0 k y bs rest))
    (fun _ _ _ vk => 10 - (intOf vk).toNat)
  case atStart => exact ⟨0, 0, X, rfl, rfl, rfl, rfl, by omega, by decide, by simp, by omega, HI0⟩
  case round =>
    obtain ⟨k, acc, y, rfl, rfl, rfl, rfl, hk9, hacc, hXe, hky, HI⟩ := hrel
    clear HI0
    have hks : k = 0 ∨ k = 1 ∨ k = 2 ∨ k = 3 ∨ k = 4 ∨ k = 5 ∨ k = 6 ∨ k = 7 ∨ k = 8 ∨ k = 9 := by omega
    by_cases hy : y < 128
    · obtain ⟨hlt, hgd, hlen0⟩ := HI.out.small hy
      have hlen : L = k + 1 := HL.out.trans hlen0
      clear hlen0
      have hcell := HC.out (i0 + k) hlt
      rw [hgd] at hcell
      have hltI : ((i0 + k : Nat) : Int) < bs.length := by omega
      clear hgd hlt
      rcases hks with rfl | rfl | rfl | rfl | rfl | rfl | rfl | rfl | rfl | rfl
      · obtain rfl : acc = 0 := by simpa using hacc
        have hor : bits .or .u64 0 (y : Int) = (y : Int) := by
          rw [u64_orv0 _ _ (by omega) (by omega) (by omega) (by omega) (by omega)]
          omega
        have e2 : X = y := by simpa using hXe
        have hcell0 : w.cell? ⟨b, off + i0, none⟩ = some (.int .u8 y) := hcell
        have hltI0 : (i0 : Int) < bs.length := hltI
        clear hcell hltI
        go_wp2
        go_ret3
        exact ⟨ret_uib (by omega) (by omega), rfl⟩
      · have hacc' : acc < 128 := by simpa using hacc
        have e2 : X = acc + y * 128 := by simpa using hXe
        have hy0 : 0 < y := hky (by omega)
        have hz : ((y : Int) == 0) = false := by rw [beq_eq_false_iff_ne]; omega
        have hor : bits .or .u64 (acc : Int) ((y : Int) * 128) = ((acc + y * 128 : Nat) : Int) := by
          rw [u64_orv7 _ _ (by omega) (by omega) (by omega) (by omega) (by omega)]
          omega
        go_wp2
        go_ret3
        exact ⟨ret_uib (by omega) (by omega), rfl⟩
      · have hacc' : acc < 16384 := by simpa using hacc
        have e2 : X = acc + y * 16384 := by simpa using hXe
        have hy0 : 0 < y := hky (by omega)
        have hz : ((y : Int) == 0) = false := by rw [beq_eq_false_iff_ne]; omega
        have hor : bits .or .u64 (acc : Int) ((y : Int) * 16384) = ((acc + y * 16384 : Nat) : Int) := by
          rw [u64_orv14 _ _ (by omega) (by omega) (by omega) (by omega) (by omega)]
          omega
        go_wp2
        go_ret3
        exact ⟨ret_uib (by omega) (by omega), rfl⟩
      · have hacc' : acc < 2097152 := by simpa using hacc
        have e2 : X = acc + y * 2097152 := by simpa using hXe
        have hy0 : 0 < y := hky (by omega)
        have hz : ((y : Int) == 0) = false := by rw [beq_eq_false_iff_ne]; omega
        have hor : bits .or .u64 (acc : Int) ((y : Int) * 2097152) = ((acc + y * 2097152 : Nat) : Int) := by
          rw [u64_orv21 _ _ (by omega) (by omega) (by omega) (by omega) (by omega)]
          omega
        go_wp2
        go_ret3
        exact ⟨ret_uib (by omega) (by omega), rfl⟩
      · have hacc' : acc < 268435456 := by simpa using hacc
        have e2 : X = acc + y * 268435456 := by simpa using hXe
        have hy0 : 0 < y := hky (by omega)
        have hz : ((y : Int) == 0) = false := by rw [beq_eq_false_iff_ne]; omega
        have hor : bits .or .u64 (acc : Int) ((y : Int) * 268435456) = ((acc + y * 268435456 : Nat) : Int) := by
          rw [u64_orv28 _ _ (by omega) (by omega) (by omega) (by omega) (by omega)]
          omega
        go_wp2
        go_ret3
        exact ⟨ret_uib (by omega) (by omega), rfl⟩
      · have hacc' : acc < 34359738368 := by simpa using hacc
        have e2 : X = acc + y * 34359738368 := by simpa using hXe
        have hy0 : 0 < y := hky (by omega)
        have hz : ((y : Int) == 0) = false := by rw [beq_eq_false_iff_ne]; omega
        have hor : bits .or .u64 (acc : Int) ((y : Int) * 34359738368) = ((acc + y * 34359738368 : Nat) : Int) := by
          rw [u64_orv35 _ _ (by omega) (by omega) (by omega) (by omega) (by omega)]
          omega
        go_wp2
        go_ret3
        exact ⟨ret_uib (by omega) (by omega), rfl⟩
      · have hacc' : acc < 4398046511104 := by simpa using hacc
        have e2 : X = acc + y * 4398046511104 := by simpa using hXe
        have hy0 : 0 < y := hky (by omega)
        have hz : ((y : Int) == 0) = false := by rw [beq_eq_false_iff_ne]; omega
        have hor : bits .or .u64 (acc : Int) ((y : Int) * 4398046511104) = ((acc + y * 4398046511104 : Nat) : Int) := by
          rw [u64_orv42 _ _ (by omega) (by omega) (by omega) (by omega) (by omega)]
          omega
        go_wp2
        go_ret3
        exact ⟨ret_uib (by omega) (by omega), rfl⟩
      · have hacc' : acc < 562949953421312 := by simpa using hacc
        have e2 : X = acc + y * 562949953421312 := by simpa using hXe
        have hy0 : 0 < y := hky (by omega)
        have hz : ((y : Int) == 0) = false := by rw [beq_eq_false_iff_ne]; omega
        have hor : bits .or .u64 (acc : Int) ((y : Int) * 562949953421312) = ((acc + y * 562949953421312 : Nat) : Int) := by
          rw [u64_orv49 _ _ (by omega) (by omega) (by omega) (by omega) (by omega)]
          omega
        go_wp2
        go_ret3
        exact ⟨ret_uib (by omega) (by omega), rfl⟩
      · have hacc' : acc < 72057594037927936 := by simpa using hacc
        have e2 : X = acc + y * 72057594037927936 := by simpa using hXe
        have hy0 : 0 < y := hky (by omega)
        have hz : ((y : Int) == 0) = false := by rw [beq_eq_false_iff_ne]; omega
        have hor : bits .or .u64 (acc : Int) ((y : Int) * 72057594037927936) = ((acc + y * 72057594037927936 : Nat) : Int) := by
          rw [u64_orv56 _ _ (by omega) (by omega) (by omega) (by omega) (by omega)]
          omega
        go_wp2
        go_ret3
        exact ⟨ret_uib (by omega) (by omega), rfl⟩
      · have hacc' : acc < 9223372036854775808 := by simpa using hacc
        have e2 : X = acc + y * 9223372036854775808 := by simpa using hXe
        have hy0 : 0 < y := hky (by omega)
        have hz : ((y : Int) == 0) = false := by rw [beq_eq_false_iff_ne]; omega
        have hor : bits .or .u64 (acc : Int) ((y : Int) * 9223372036854775808) = ((acc + y * 9223372036854775808 : Nat) : Int) := by
          rw [u64_orv63 _ _ (by omega) (by omega) (by omega) (by omega) (by omega)]
          omega
        go_wp2
        go_ret3
        exact ⟨ret_uib (by omega) (by omega), rfl⟩
    · obtain ⟨hlt, hgd, hI2⟩ := HI.out.big (by omega : 128 ≤ y)
      have HI2 := hid hI2
      have hcell := HC.out (i0 + k) hlt
      rw [hgd] at hcell
      have hltI : ((i0 + k : Nat) : Int) < bs.length := by omega
      clear hgd hlt hI2
      obtain ⟨c, hcc⟩ : ∃ c : Nat, c = y % 128 + 128 := ⟨_, rfl⟩
      rw [← hcc] at hcell
      have hc1 : 128 ≤ c ∧ c ≤ 255 := by omega
      rcases hks with rfl | rfl | rfl | rfl | rfl | rfl | rfl | rfl | rfl | rfl
      · obtain rfl : acc = 0 := by simpa using hacc
        have e2 : X = y := by simpa using hXe
        have hv : bits .or .u64 0 (IntKind.u64.wrap (IntKind.u64.wrap (bits .and .u8 (c : Int) 127))) = ((y % 128 : Nat) : Int) := by
          simp (disch := omega) only [u8_and127, u64_wrap_id, u64_orv0]
          omega
        clear hcc
        have hcell0 : w.cell? ⟨b, off + i0, none⟩ = some (.int .u8 c) := hcell
        have hltI0 : (i0 : Int) < bs.length := hltI
        clear hcell hltI
        go_wp2
        refine ⟨⟨1, y % 128, y / 128, (by first | rfl | (congr 1; omega)), rfl, rfl, (by first | rfl | (congr 1; omega)), by omega, ?_, ?_, by omega, HI2⟩, by simp [intOf]⟩
        · show y % 128 < 2 ^ 7
          omega
        · show X = y % 128 + y / 128 * 2 ^ 7
          omega
      · have hacc' : acc < 128 := by simpa using hacc
        have e2 : X = acc + y * 128 := by simpa using hXe
        have hv : bits .or .u64 (acc : Int) (IntKind.u64.wrap (IntKind.u64.wrap (bits .and .u8 (c : Int) 127) * 128)) = ((acc + y % 128 * 128 : Nat) : Int) := by
          simp (disch := omega) only [u8_and127, u64_wrap_id, u64_orv7]
          omega
        clear hcc
        go_wp2
        refine ⟨⟨2, acc + y % 128 * 128, y / 128, (by first | rfl | (congr 1; omega)), rfl, rfl, (by first | rfl | (congr 1; omega)), by omega, ?_, ?_, by omega, HI2⟩, by simp [intOf]⟩
        · show acc + y % 128 * 128 < 2 ^ 14
          have e3 : (2 : Nat) ^ 14 = 16384 := by decide
          omega
        · show X = acc + y % 128 * 128 + y / 128 * 2 ^ 14
          have e3 : (2 : Nat) ^ 14 = 16384 := by decide
          omega
      · have hacc' : acc < 16384 := by simpa using hacc
        have e2 : X = acc + y * 16384 := by simpa using hXe
        have hv : bits .or .u64 (acc : Int) (IntKind.u64.wrap (IntKind.u64.wrap (bits .and .u8 (c : Int) 127) * 16384)) = ((acc + y % 128 * 16384 : Nat) : Int) := by
          simp (disch := omega) only [u8_and127, u64_wrap_id, u64_orv14]
          omega
        clear hcc
        go_wp2
        refine ⟨⟨3, acc + y % 128 * 16384, y / 128, (by first | rfl | (congr 1; omega)), rfl, rfl, (by first | rfl | (congr 1; omega)), by omega, ?_, ?_, by omega, HI2⟩, by simp [intOf]⟩
        · show acc + y % 128 * 16384 < 2 ^ 21
          have e3 : (2 : Nat) ^ 21 = 2097152 := by decide
          omega
        · show X = acc + y % 128 * 16384 + y / 128 * 2 ^ 21
          have e3 : (2 : Nat) ^ 21 = 2097152 := by decide
          omega
      · have hacc' : acc < 2097152 := by simpa using hacc
        have e2 : X = acc + y * 2097152 := by simpa using hXe
        have hv : bits .or .u64 (acc : Int) (IntKind.u64.wrap (IntKind.u64.wrap (bits .and .u8 (c : Int) 127) * 2097152)) = ((acc + y % 128 * 2097152 : Nat) : Int) := by
          simp (disch := omega) only [u8_and127, u64_wrap_id, u64_orv21]
          omega
        clear hcc
        go_wp2
        refine ⟨⟨4, acc + y % 128 * 2097152, y / 128, (by first | rfl | (congr 1; omega)), rfl, rfl, (by first | rfl | (congr 1; omega)), by omega, ?_, ?_, by omega, HI2⟩, by simp [intOf]⟩
        · show acc + y % 128 * 2097152 < 2 ^ 28
          have e3 : (2 : Nat) ^ 28 = 268435456 := by decide
          omega
        · show X = acc + y % 128 * 2097152 + y / 128 * 2 ^ 28
          have e3 : (2 : Nat) ^ 28 = 268435456 := by decide
          omega
      · have hacc' : acc < 268435456 := by simpa using hacc
        have e2 : X = acc + y * 268435456 := by simpa using hXe
        have hv : bits .or .u64 (acc : Int) (IntKind.u64.wrap (IntKind.u64.wrap (bits .and .u8 (c : Int) 127) * 268435456)) = ((acc + y % 128 * 268435456 : Nat) : Int) := by
          simp (disch := omega) only [u8_and127, u64_wrap_id, u64_orv28]
          omega
        clear hcc
        go_wp2
        refine ⟨⟨5, acc + y % 128 * 268435456, y / 128, (by first | rfl | (congr 1; omega)), rfl, rfl, (by first | rfl | (congr 1; omega)), by omega, ?_, ?_, by omega, HI2⟩, by simp [intOf]⟩
        · show acc + y % 128 * 268435456 < 2 ^ 35
          have e3 : (2 : Nat) ^ 35 = 34359738368 := by decide
          omega
        · show X = acc + y % 128 * 268435456 + y / 128 * 2 ^ 35
          have e3 : (2 : Nat) ^ 35 = 34359738368 := by decide
          omega
      · have hacc' : acc < 34359738368 := by simpa using hacc
        have e2 : X = acc + y * 34359738368 := by simpa using hXe
        have hv : bits .or .u64 (acc : Int) (IntKind.u64.wrap (IntKind.u64.wrap (bits .and .u8 (c : Int) 127) * 34359738368)) = ((acc + y % 128 * 34359738368 : Nat) : Int) := by
          simp (disch := omega) only [u8_and127, u64_wrap_id, u64_orv35]
          omega
        clear hcc
        go_wp2
        refine ⟨⟨6, acc + y % 128 * 34359738368, y / 128, (by first | rfl | (congr 1; omega)), rfl, rfl, (by first | rfl | (congr 1; omega)), by omega, ?_, ?_, by omega, HI2⟩, by simp [intOf]⟩
        · show acc + y % 128 * 34359738368 < 2 ^ 42
          have e3 : (2 : Nat) ^ 42 = 4398046511104 := by decide
          omega
        · show X = acc + y % 128 * 34359738368 + y / 128 * 2 ^ 42
          have e3 : (2 : Nat) ^ 42 = 4398046511104 := by decide
          omega
      · have hacc' : acc < 4398046511104 := by simpa using hacc
        have e2 : X = acc + y * 4398046511104 := by simpa using hXe
        have hv : bits .or .u64 (acc : Int) (IntKind.u64.wrap (IntKind.u64.wrap (bits .and .u8 (c : Int) 127) * 4398046511104)) = ((acc + y % 128 * 4398046511104 : Nat) : Int) := by
          simp (disch := omega) only [u8_and127, u64_wrap_id, u64_orv42]
          omega
        clear hcc
        go_wp2
        refine ⟨⟨7, acc + y % 128 * 4398046511104, y / 128, (by first | rfl | (congr 1; omega)), rfl, rfl, (by first | rfl | (congr 1; omega)), by omega, ?_, ?_, by omega, HI2⟩, by simp [intOf]⟩
        · show acc + y % 128 * 4398046511104 < 2 ^ 49
          have e3 : (2 : Nat) ^ 49 = 562949953421312 := by decide
          omega
        · show X = acc + y % 128 * 4398046511104 + y / 128 * 2 ^ 49
          have e3 : (2 : Nat) ^ 49 = 562949953421312 := by decide
          omega
      · have hacc' : acc < 562949953421312 := by simpa using hacc
        have e2 : X = acc + y * 562949953421312 := by simpa using hXe
        have hv : bits .or .u64 (acc : Int) (IntKind.u64.wrap (IntKind.u64.wrap (bits .and .u8 (c : Int) 127) * 562949953421312)) = ((acc + y % 128 * 562949953421312 : Nat) : Int) := by
          simp (disch := omega) only [u8_and127, u64_wrap_id, u64_orv49]
          omega
        clear hcc
        go_wp2
        refine ⟨⟨8, acc + y % 128 * 562949953421312, y / 128, (by first | rfl | (congr 1; omega)), rfl, rfl, (by first | rfl | (congr 1; omega)), by omega, ?_, ?_, by omega, HI2⟩, by simp [intOf]⟩
        · show acc + y % 128 * 562949953421312 < 2 ^ 56
          have e3 : (2 : Nat) ^ 56 = 72057594037927936 := by decide
          omega
        · show X = acc + y % 128 * 562949953421312 + y / 128 * 2 ^ 56
          have e3 : (2 : Nat) ^ 56 = 72057594037927936 := by decide
          omega
      · have hacc' : acc < 72057594037927936 := by simpa using hacc
        have e2 : X = acc + y * 72057594037927936 := by simpa using hXe
        have hv : bits .or .u64 (acc : Int) (IntKind.u64.wrap (IntKind.u64.wrap (bits .and .u8 (c : Int) 127) * 72057594037927936)) = ((acc + y % 128 * 72057594037927936 : Nat) : Int) := by
          simp (disch := omega) only [u8_and127, u64_wrap_id, u64_orv56]
          omega
        clear hcc
        go_wp2
        refine ⟨⟨9, acc + y % 128 * 72057594037927936, y / 128, (by first | rfl | (congr 1; omega)), rfl, rfl, (by first | rfl | (congr 1; omega)), by omega, ?_, ?_, by omega, HI2⟩, by simp [intOf]⟩
        · show acc + y % 128 * 72057594037927936 < 2 ^ 63
          have e3 : (2 : Nat) ^ 63 = 9223372036854775808 := by decide
          omega
        · show X = acc + y % 128 * 72057594037927936 + y / 128 * 2 ^ 63
          have e3 : (2 : Nat) ^ 63 = 9223372036854775808 := by decide
          omega
      · have e2 : X = acc + y * 9223372036854775808 := by simpa using hXe
        omega
end Go.Proofs.Qxb6609120aDoor
