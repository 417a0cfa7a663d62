import Derived.Test.Qxb6609120aDoorRead
namespace Go.Proofs.Qxb6609120aDoor
open Go.RowKit Go.Joins

theorem run_size25 (wx : World) : (sizeOf (Tryd.prog.elem 25)).run Tryd.prog wx = .ok 1 wx := by kernel_rfl

/-- the address behind a cut at lo -/
def cutAt (ao : Option Addr) (cap lo : Nat) : Option Addr := if cap = lo then ao else ao.map (·.add (lo * 1))

theorem rd_cutAt {B : Nat} {w : World} {ao : Option Addr} {n cap : Nat} {xs : List Int} (h : Rd .u8 B w (.slice ao n cap) xs) (lo : Nat) (h1 : lo ≤ xs.length) :
    Rd .u8 B w (.slice (cutAt ao cap lo) (n - lo) (cap - lo)) (xs.drop lo) := by
  obtain ⟨ao', cap', e, hl, hm, hn, hc⟩ := h
  simp only [Value.slice.injEq] at e
  obtain ⟨rfl, rfl, rfl⟩ := e
  have hlen : (xs.drop lo).length = xs.length - lo := by simp
  refine ⟨cutAt ao cap lo, cap - lo, by rw [hlen], by rw [hlen]; omega, by rw [hlen]; omega, ?_, ?_⟩
  · intro e
    unfold cutAt at e
    split at e
    · omega
    · have : ao = none := by cases ao <;> simp at e ⊢
      have := hn this
      omega
  · intro k hk
    rw [hlen] at hk
    obtain ⟨b, off, rfl, hb, hcell⟩ := hc (lo + k) (by omega)
    refine ⟨b, off + lo, ?_, hb, ?_⟩
    · unfold cutAt
      rw [if_neg (by omega)]
      simp [Addr.add_lit]
    · rw [Nat.add_assoc, hcell]
      congr 2
      rw [List.getD_eq_getElem?_getD, List.getD_eq_getElem?_getD, List.getElem?_drop]

set_option maxHeartbeats 4000000 in
set_option maxRecDepth 100000 in
theorem run_cut_l (wx : World) (ao : Option Addr) (n cap lo : Nat) (LO : Int) (e1 : LO = lo) (h1 : lo ≤ n) :
    (Instr.slice 25 (.slice ao n cap) (some (.int .i64 LO)) none none).run Tryd.prog wx = .ok (.slice (cutAt ao cap lo) (n - lo) (cap - lo)) wx := by
  subst e1
  rw [run_slice_l wx 25 _ n cap Tryd.underlying25 .i64 (lo : Int) (by omega) (by omega), run_size25]
  simp only [Result.andThen, sliced, Int.toNat_natCast]
  rfl

/-- a record of kind 4 with n numbers, whose tail is rest -/
def rec4 (n : Nat) (rest : List Int) : List Int := 4 :: (uv n ++ rest)

set_option maxHeartbeats 4000000 in
set_option maxRecDepth 100000 in
theorem zzIDTail_any (B : Nat) (v : Value) (n : Nat) (rest : List Int) (w : World) (hn : n < 18446744073709551616) (hb : Rd .u8 B w v (rec4 n rest)) :
    Calls Tryd.prog 12 #[v, .int .u8 4, .int .u64 n] w fun e w' => ∃ v', e = .returned (.tuple #[v', .bool true]) ∧ Hid (Rd .u8 B w v' rest) ∧ w' = w := by
  have hlen : (rec4 n rest).length = 1 + (uv n).length + rest.length := by unfold rec4; simp; omega
  have hdr : (rec4 n rest).drop 1 = uv n ++ rest := by unfold rec4; rw [List.drop_succ_cons, List.drop_zero]
  have hg0 : (rec4 n rest).getD 0 0 = 4 := by unfold rec4; rw [List.getD_cons_zero]
  have h32 := fun w' (h : Rd .u8 B w' v (rec4 n rest)) => zzReadUvarint_any B v (rec4 n rest) rest 1 n w' hn h (by omega) hdr
  have H32 := hid (h32 w hb)
  have hb0 := hb
  obtain ⟨b, off, cap, rfl, hl, hm, hbB, hc⟩ := hb.cells (by omega)
  have hc0 := hc 0 (by omega)
  rw [hg0, Nat.add_zero] at hc0
  obtain ⟨L, hL⟩ : ∃ L, L = (uv n).length := ⟨_, rfl⟩
  rw [← hL] at hlen
  obtain ⟨N, hN⟩ : ∃ N, N = (rec4 n rest).length := ⟨_, rfl⟩
  obtain ⟨p, hp⟩ : ∃ p, p = 1 + L := ⟨_, rfl⟩
  have hcut := fun wx => run_cut_l wx (some ⟨b, off, none⟩) N cap p (p : Int) rfl (by omega)
  obtain ⟨ca, hca⟩ : ∃ ca, ca = cutAt (some ⟨b, off, none⟩) cap p := ⟨_, rfl⟩
  have hR := rd_cutAt hb0 p (by omega)
  have e : (rec4 n rest).drop p = rest := by
    rw [hp, ← List.drop_drop, hdr, hL, List.drop_left]
  rw [e, ← hN] at hR
  have HR := hid hR
  rw [← hL, ← hp, ← hN] at H32
  rw [← hca] at hcut HR
  have hnn : ((n : Int) != n) = false := by simp
  have hpN : p ≤ N := by omega
  have hN1 : (0 : Int) < N := by omega
  have hN2 : 0 < N := by omega
  have e1 : ((1 : Nat) : Int) = 1 := rfl
  rw [e1] at H32
  clear e1
  rw [← hN] at hlen hl hm ⊢
  have hN0 : ((N : Int) == 0) = false := by rw [beq_eq_false_iff_ne]; omega
  clear hb0 hb h32 hc hdr hL hN hR e hca hp hlen hg0
  go_enter Tryd.func12, Tryd.ntmps12
  go_wp2_with (first
    | (go_at_call 32; refine H32.out.mono ?_; rintro e w' ⟨rfl, hw⟩; have hw2 := hw.symm; clear hw; subst hw2))
  go_ret2
  exact ⟨_, rfl, HR, rfl⟩

theorem flat_split (ids : List Int) (k : Nat) (h : k < ids.length) : (flat ids).drop (flat (ids.take k)).length = uv (ids.getD k 0).toNat ++ flat (ids.drop (k + 1)) := by
  have e : ids = ids.take k ++ (ids.getD k 0 :: ids.drop (k + 1)) := by
    conv => lhs; rw [← List.take_append_drop k ids, List.drop_eq_getElem_cons h]
    rw [List.getD_eq_getElem?_getD, List.getElem?_eq_getElem h]; rfl
  have e2 : flat ids = flat (ids.take k) ++ (uv (ids.getD k 0).toNat ++ flat (ids.drop (k + 1))) := by
    conv => lhs; rw [e]
    rw [flat_app]
    congr 1
  rw [e2, List.drop_left]

set_option maxHeartbeats 4000000 in
set_option maxRecDepth 100000 in
theorem zzIDRecord_any (B B' : Nat) (v vi : Value) (ids : List Int) (w : World) (hn : ids.length ≤ 1048576) (hu : U64s ids) (hb : Rd .u8 B w v (rec4 ids.length (flat ids))) (hi : Rd .u64 B' w vi ids) :
    Calls Tryd.prog 11 #[v, .int .u8 4, vi] w fun e w' => e = .returned (.bool true) ∧ w' = w := by
  have HT := hid (zzIDTail_any B v ids.length (flat ids) w (by omega) hb)
  have HU := hid hu
  have HF := hid (flat_take_len ids hu)
  obtain ⟨ao, cap, rfl, hl1, hm1, -, hc⟩ := hi
  have HC := hid hc
  clear hc hb hu
  have hconv : IntKind.u64.wrap (ids.length : Int) = ids.length := u64_wrap_id _ (by omega) (by omega)
  go_enter Tryd.func11, Tryd.ntmps11
  go_wp2_with (first
    | (go_at_call 12; refine HT.out.mono ?_; rintro e w' ⟨v1, rfl, HR, hw⟩; have hw2 := hw.symm; clear hw; subst hw2))
  go_loop [9, 28] (fun vp vk => ∃ k p : Nat, vk = .int .i64 k ∧ vp = .int .i64 p ∧ k ≤ ids.length ∧ Hid (p = (flat (ids.take k)).length)) (fun _ vk => ids.length - (intOf vk).toNat)
  case atStart => exact ⟨0, 0, rfl, rfl, Nat.zero_le _, by show 0 = _; simp [flat]⟩
  case round =>
    obtain ⟨k, p, rfl, rfl, hk, HP⟩ := hrel
    by_cases hlt : (k : Int) < ids.length
    · obtain ⟨b, off, rfl, hlb, hx⟩ := HC.out k (by omega)
      have hub := HU.out k (by omega)
      obtain ⟨y, hy⟩ : ∃ y : Nat, ids.getD k 0 = y := ⟨(ids.getD k 0).toNat, by omega⟩
      have hfl := HF.out k hk
      have hsp := flat_split ids k (by omega)
      have hft := flat_take ids k (by omega)
      rw [hy] at hx hub hsp hft
      rw [← HP.out] at hfl hsp
      have H32 := hid (zzReadUvarint_any B v1 (flat ids) (flat (ids.drop (k + 1))) p y w (by omega) HR.out (by omega) hsp)
      have HP2 : Hid (p + (uv y).length = (flat (ids.take (k + 1))).length) := by
        show _ = _
        rw [hft, List.length_append, ← HP.out]; rfl
      obtain ⟨q, hq⟩ : ∃ q, q = p + (uv y).length := ⟨_, rfl⟩
      rw [← hq] at H32 HP2
      have hyy : ((y : Int) != y) = false := by simp
      clear hq hft hsp hy hfl
      go_wp2_with (first
        | (go_at_call 32; refine H32.out.mono ?_; rintro e w' ⟨rfl, hw⟩; have hw2 := hw.symm; clear hw; subst hw2))
      refine ⟨⟨k + 1, q, by go_num, rfl, by omega, HP2⟩, ?_⟩
      simp [intOf]; omega
    · have hke : k = ids.length := by omega
      subst hke
      have hp := HP.out
      rw [List.take_length] at hp
      obtain ⟨a1, c1, rfl, -, hm2, -, -⟩ := HR.out
      rw [← hp] at hm2 ⊢
      have hpp : ((p : Int) == p) = true := by simp
      clear hp
      go_wp2
      go_ret
      exact ⟨rfl, rfl⟩
end Go.Proofs.Qxb6609120aDoor
