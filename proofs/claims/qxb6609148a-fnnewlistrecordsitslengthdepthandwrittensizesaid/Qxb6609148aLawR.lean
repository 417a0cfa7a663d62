import Derived.Test.Qxb6609148aLawE
import Derived.Test.Qxb6609148aMeas
import Derived.Deep.RegionWith
import Derived.Deep.CutRange
namespace Go.Proofs.Qxb6609148a
open Go.RowKit Go.Joins

theorem alloc_lbd (w : World) (sl : Value) (d t : Nat) (D : Int) (hD : D = d) : ∃ w4, w4 = w.alloc (.cells #[sl, .int .i64 D, .int .i64 (t : Int)] 30) ∧ LB w.heap.size w4 sl d t ∧ Below w.heap.size w w4 ∧ w.heap.size < w4.heap.size := by
  subst hD
  exact ⟨_, rfl, heap_alloc_new w _, (Below.refl _ _).alloc (Nat.le_refl _) _, by simp⟩

/-- one list stands in its block -/
def L1 (w0 w : World) (g : Nat) (sl : Value) (d t : Nat) : Prop := LB g w sl d t ∧ g < w.heap.size ∧ Below w0.heap.size w0 w
theorem L1.on {w0 w w' : World} {g : Nat} {sl : Value} {d t : Nat} (h : L1 w0 w g sl d t) (hb : Below w.heap.size w w') : L1 w0 w' g sl d t := by
  obtain ⟨h1, h2, h3⟩ := h
  have := hb.size
  exact ⟨(hb.block _ h2).trans h1, by omega, below_on h3 hb⟩
abbrev Z30 : Obj := .cells #[.slice none 0 0, .int .i64 0, .int .i64 0] 30

/-- the new list's block, still zero -/
def ZB (w0 : World) (z : Nat) (w : World) : Prop := LB z w (.slice none 0 0) 0 0 ∧ z < w.heap.size ∧ w0.heap.size ≤ z
theorem ZB.on {w0 w w' : World} {z : Nat} (h : ZB w0 z w) (hb : Below w.heap.size w w') : ZB w0 z w' := by
  obtain ⟨h1, h2, h3⟩ := h
  have := hb.size
  exact ⟨(hb.block _ h2).trans h1, by omega, h3⟩
theorem ZB.new {w0 w : World} (h : Below w0.heap.size w0 w) : ZB w0 w.heap.size (w.alloc Z30) := ⟨heap_alloc_new w _, by simp, h.size⟩
theorem below_drew {B : Nat} {w w' : World} (h : Below B w w') : Below B w w'.drew := ⟨h.os, h.tape, h.output, h.size, h.block⟩
theorem after_n {w0 w w' : World} {g : Nat} {sl : Value} {d t : Nat} (h : L1 w0 w g sl d t) (hb : Below w.drew.heap.size w.drew w') : L1 w0 w' g sl d t :=
  h.on ((below_drew (Below.refl w.heap.size w)).trans hb)
theorem after_a {w0 w w' : World} {g : Nat} {sl : Value} {d t : Nat} (h : L1 w0 w g sl d t) (hb : Below (w.alloc Z30).drew.heap.size (w.alloc Z30).drew w') : L1 w0 w' g sl d t ∧ ZB w0 w.heap.size w' := by
  have h1 : Below (w.alloc Z30).heap.size (w.alloc Z30) w' := (below_drew (Below.refl _ _)).trans hb
  have h2 : Below w.heap.size w (w.alloc Z30) := (Below.refl _ _).alloc (Nat.le_refl _) _
  exact ⟨h.on (below_on h2 h1), (ZB.new h.2.2).on h1⟩
theorem then_a {w0 w w' : World} (h : Below w0.heap.size w0 w) (hb : Below (w.alloc Z30).heap.size (w.alloc Z30) w') : Below w0.heap.size w0 w' ∧ ZB w0 w.heap.size w' :=
  ⟨below_on h (below_on ((Below.refl _ _).alloc (Nat.le_refl _) _) hb), (ZB.new h).on hb⟩
theorem ip_alloc {w : World} {p : Value} {a : Nat} (h : Ip w.heap.size w p a) : Ip (w.alloc Z30).heap.size (w.alloc Z30) p a := h.on ((Below.refl _ _).alloc (Nat.le_refl _) _)
theorem l1_store {w0 w : World} {z : Nat} {sl : Value} {d t : Nat} (h : ZB w0 z w) (hb : Below w0.heap.size w0 w) : L1 w0 (((w.setCell ⟨z, 0, none⟩ sl).setCell ⟨z, 1, none⟩ (.int .i64 d)).setCell ⟨z, 2, none⟩ (.int .i64 t)) z sl d t := by
  obtain ⟨h1, h2, h3⟩ := h
  exact ⟨LB.set3 h1, by simpa [World.setCell] using h2, ((hb.setCell h3 _).setCell h3 _).setCell h3 _⟩
theorem l1_new {w0 w : World} {sl : Value} {d t : Nat} (hb : Below w0.heap.size w0 w) : L1 w0 (w.alloc (.cells #[sl, .int .i64 d, .int .i64 t] 30)) w.heap.size sl d t :=
  ⟨heap_alloc_new w _, by simp, below_on hb ((Below.refl _ _).alloc (Nat.le_refl _) _)⟩

theorem pairMI (hM : Hid MagC) (am : Option Addr) (cpm MW PW g : Nat) (x : Int) (w : World) (hMW : MW ≤ 2097154) (hPW : PW = (1 + MW) + (1 + bc x.natAbs)) (hx : -9223372036854775808 ≤ x ∧ x ≤ 9223372036854775807)
    (h : Ip w.heap.size w (.pointer (some ⟨g, 0, none⟩)) x.natAbs) :
    Calls Try.prog 13 #[.iface 30 (.agg #[.slice am 2 cpm, .int .i64 1, .int .i64 (MW : Int)]), .iface 36 (.agg #[.pointer (some ⟨g, 0, none⟩)])] w fun e w' => (∃ ap cpp, e = .returned (.agg #[.slice ap 2 cpp, .int .i64 2, .int .i64 (PW : Int)])) ∧ Below w.heap.size w w' := by
  have hba : bc x.natAbs ≤ 8 := bc_le 8 x.natAbs (by omega)
  refine (pairAt 30 36 (lv am 2 cpm 1 MW) (.agg #[.pointer (some ⟨g, 0, none⟩)]) (1 + 1) (1 + MW) 0 (1 + bc x.natAbs) w ((meas_list am 2 cpm 1 MW (by omega) (by omega)).at w) (meas_int hM g x.natAbs w h (by omega)) (by omega) (by omega) (by omega) (by omega)).mono ?_
  rintro e w' ⟨⟨ap, cpp, rfl, -⟩, hb⟩
  rw [← hPW]
  exact ⟨⟨ap, cpp, rfl⟩, hb⟩


set_option maxHeartbeats 40000000 in
set_option maxRecDepth 100000 in
theorem walkR (hM : Hid MagC) (v : Value) (ss : List ByteArray) (x : Int) (w : World) (hs : Rs w.heap.size w v ss) (hz : Sz ss) (hx64 : -9223372036854775808 ≤ x ∧ x ≤ 9223372036854775807) :
    Calls Try.prog 4 #[v, .int .i64 x] w fun e w' => e = .returned (.bool true) ∧ Below w.heap.size w w' := by
  have HS0 := hid hs
  have HBY := hid (zzBytesR_any _ v ss x w hs hz)
  have HSO := hid (stringsOver_any _ v ss w hs hz)
  have HUT := hid (allValid_any _ v ss w hs hz)
  have HSZ := hid hz
  have HX := hid hx64
  clear hz hx64
  obtain ⟨i0, hinf, hz0, hz1, hz2⟩ := info_parts info9
  obtain ⟨ao, cap, rfl, hl, hm, hnil, -⟩ := hs.parts
  clear hs
  have MX : Hid ((ss.map Value.string).length = ss.length.min ss.length) := by show _ = min _ _; simp
  have FX : Hid (0 + (ss.map Value.string).length ≤ ss.length) := by show _ ≤ _; simp
  cases ao with
  | none =>
    have hsx : ∀ wx, (binOp .neq 22 (.slice none ss.length cap) (.slice none 0 0)).run Try.prog wx = .ok (.bool false) wx := fun wx => run_neq_slice_nil_any wx 22 9 none ss.length cap 0 0 Try.underlying22
    have HN0 : Hid (ss.length = 0) := by show _ = _; have := hnil rfl; omega
    clear hnil
    go_enter Try.func4, Try.ntmps4
    go_wp2_with (first
      | (go_at_call 16; refine HBY.out.mono ?_; rintro e w' ⟨⟨β, rfl⟩, hw⟩; have hw2 := hw.symm; clear hw; subst hw2; cases β)
      | (go_at_call 7; refine HSO.out.mono ?_; rintro e w' ⟨⟨β, rfl, hso⟩, hw⟩; have hw2 := hw.symm; clear hw; subst hw2; have hor : (β = false ∧ Hid (16 * ss.length + tot ss ≤ 1048576)) ∨ β = true := (by cases β; exact .inl ⟨rfl, hso rfl⟩; exact .inr rfl); clear hso; rcases hor with ⟨rfl, HSS⟩ | rfl)
      | (go_at_call 8; refine HUT.out.mono ?_; rintro e w' ⟨⟨β, rfl⟩, hw⟩; have hw2 := hw.symm; clear hw; subst hw2; cases β))
    · go_ret
      exact ⟨rfl, Below.refl _ _⟩
    · go_ret
      exact ⟨rfl, Below.refl _ _⟩
    · skip
      have HS := HS0
      have HB : Hid (Below w.heap.size w w) := Below.refl _ _
      have HZT := HSS
      have hn : ss.length ≤ 65536 := by have := HZT.out; omega
      clear HSS HBY HSO HUT HS0
      obtain ⟨T, hT⟩ : ∃ T, T = ss.length + tot ss := ⟨_, rfl⟩
      have hTb : T ≤ 1048576 := by have := HZT.out; omega
      have HT := hid hT
      clear hT
      go_loop [6, 7] (fun t i => ∃ k U : Nat, k ≤ ss.length ∧ i = .int .i64 k ∧ t = .int .i64 U ∧ U ≤ 1048576 ∧ Hid (U = ss.length + tot (ss.take k))) (fun _ i => ss.length - (intOf i).toNat)
      case atStart => exact ⟨0, ss.length, Nat.zero_le _, rfl, rfl, by omega, by show _ = _; simp [tot]⟩
      case round =>
        obtain ⟨k, U, hk, rfl, rfl, hU, HU⟩ := hrel
        by_cases hlt : (k : Int) < ss.length
        · have hkn : k < ss.length := by omega
          obtain ⟨aa, cc, e, -, -, -, hc⟩ := HS.out.parts
          simp only [Value.slice.injEq] at e
          obtain ⟨e1, -, -⟩ := e
          obtain ⟨b, off, e2, hlb, hx⟩ := hc k hkn
          rw [e2] at e1
          clear hc
          have ht := tot_take ss k hkn
          have hle := tot_take_le ss (k + 1)
          have HU2 : Hid (U + (ss.getD k .empty).size = ss.length + tot (ss.take (k + 1))) := by
            show _ = _
            rw [ht, HU.out]; omega
          have hub : U + (ss.getD k .empty).size ≤ 1048576 := by have := HU2.out; have := HZT.out; omega
          obtain ⟨s, hse⟩ : ∃ s, s = ss.getD k .empty := ⟨_, rfl⟩
          rw [← hse] at hx HU2 hub
          clear ht hse hle
          exact absurd hkn (by have := HN0.out; omega)
        · have hke : k = ss.length := by omega
          subst hke
          have hUT : U = T := by
            have := HU.out
            rw [List.take_length] at this
            rw [HT.out]; exact this
          subst hUT
          clear HU hU hk hlt
          have HC9 := hid (fun (wx : World) (h : Rs wx.heap.size wx (.slice none ss.length cap) ss) => stringList_any _ ss wx h HZT.out)
          rw [← HT.out] at HC9
          obtain ⟨MW, hMW⟩ : ∃ MW, MW = (1 + U) + (1 + U) := ⟨_, rfl⟩
          have HMW := hid hMW
          have hMWb : MW ≤ 2097154 := by omega
          have hmw1 : ((MW : Int) != 2 * (1 + (U : Int))) = false := by rw [bne_eq_false_iff_eq]; omega
          clear hMW HSZ HZT
          go_wp2_with fail
          refine (HC9.out _ HS.out).mono ?_
          rintro e w3 ⟨⟨al, cpl, rfl, hcpl⟩, hbe3⟩
          have HB3 := hid (below_on HB.out hbe3)
          unfold lv
          clear hbe3
          obtain ⟨w4, hw4, hlb4, hbe4, hlt4⟩ := alloc_lb w3 (.slice al ss.length cpl) U
          have HW4 := hid hw4
          have H4 : Hid (L1 w w4 w3.heap.size (.slice al ss.length cpl) 0 U) := ⟨hlb4, hlt4, below_on HB3.out hbe4⟩
          clear hw4 hlb4 hbe4 HS HB HB3 HC9 hlt4
          go_wp2_with fail
          rw [← HW4.out]
          refine (extent_any al ss.length cpl 0 U w4).mono ?_
          rintro e w5 ⟨rfl, hb5⟩
          have H5 := hid (H4.out.on hb5)
          clear hb5 H4 HW4
          obtain ⟨k0, k1, k2⟩ := H5.out.1.cells
          go_wp2_with fail
          clear k0 k1 k2
          refine (len_any al ss.length cpl 0 U w5).mono ?_
          rintro e w6 ⟨rfl, hb6⟩
          have H6 := hid (H5.out.on hb6)
          clear hb6 H5
          obtain ⟨k0, k1, k2⟩ := H6.out.1.cells
          go_wp2_with fail
          clear k0 k1 k2
          refine (pair_any 30 30 (lv al ss.length cpl 0 U) (lv al ss.length cpl 0 U) (0 + 1) (1 + U) (0 + 1) (1 + U) w6 (meas_list _ _ _ _ _ (by omega) (by omega)) (meas_list _ _ _ _ _ (by omega) (by omega)) (by omega) (by omega) (by omega) (by omega)).mono ?_
          rintro e w7 ⟨⟨am, cpm, rfl, hcpm⟩, hb7⟩
          have HB7 := hid (H6.out.on hb7).2.2
          rw [← HMW.out]
          have emax : max (0 + 1) (0 + 1) = 1 := rfl
          rw [emax]
          clear emax hb7 H6
          unfold lv
          obtain ⟨w8, hw8, hlb8, hbe8, hlt8⟩ := alloc_lbd w7 (.slice am 2 cpm) 1 MW 1 rfl
          have HW8 := hid hw8
          have H8 : Hid (L1 w w8 w7.heap.size (.slice am 2 cpm) 1 MW) := ⟨hlb8, hlt8, below_on HB7.out hbe8⟩
          clear hw8 hlb8 hbe8 hlt8 HB7
          go_wp2_with fail
          rw [← HW8.out]
          refine (extent_any am 2 cpm 1 MW w8).mono ?_
          rintro e w9 ⟨rfl, hb9⟩
          have H9 := hid (H8.out.on hb9)
          clear hb9 H8 HW8
          obtain ⟨k0, k1, k2⟩ := H9.out.1.cells
          go_wp2_with fail
          clear k0 k1 k2
          refine (len_any am 2 cpm 1 MW w9).mono ?_
          rintro e w10 ⟨rfl, hb10⟩
          have H10 := hid (H9.out.on hb10)
          clear hb10 H9
          obtain ⟨k0, k1, k2⟩ := H10.out.1.cells
          go_wp2_with fail
          obtain ⟨PW, hPW⟩ : ∃ PW, PW = (1 + MW) + (1 + bc x.natAbs) := ⟨_, rfl⟩
          have HPW := hid hPW
          clear hPW
          have hlt10 : w7.heap.size < w10.heap.size := H10.out.2.1
          go_cut [14] from 95 to 100 (fun s14 wx => ∃ z ap cpp, s14 = .pointer (some ⟨z, 0, none⟩) ∧ Hid (L1 w wx z (.slice ap 2 cpp) 2 PW))
          case first =>
            go_region_with (first
              | (go_at_call 12; refine (zzInteger_any x _ HX.out).mono ?_; rintro e w11 ⟨g, rfl, hip, hb11⟩; have HIP := hid hip; clear hip; first
                | (have ha11 := after_a H10.out hb11; have HZ11 := hid ha11.2; have H11 := hid ha11.1; clear ha11 hb11; obtain ⟨j0, j1, j2⟩ := H11.out.1.cells; have hlt11 : w7.heap.size < w11.heap.size := H11.out.2.1)
                | (have ha11 := after_n H10.out hb11; have H11 := hid ha11; clear ha11 hb11; obtain ⟨j0, j1, j2⟩ := H11.out.1.cells; have hlt11 : w7.heap.size < w11.heap.size := H11.out.2.1))
              | (go_at_call 13; refine (pairMI hM am cpm MW PW g x _ hMWb HPW.out HX.out ?_).mono ?_; (first | exact HIP.out | exact ip_alloc HIP.out); rintro e w12 ⟨⟨ap, cpp, rfl⟩, hb12⟩; first
                | (have hz12 := HZ11.out.on hb12; have HB12 := hid (below_on H11.out.2.2 hb12); clear hb12; obtain ⟨r0, r1, r2⟩ := hz12.1.cells; have f0 := unfrozen_of_block hz12.1 0; have f1 := unfrozen_of_block hz12.1 1; have f2 := unfrozen_of_block hz12.1 2; have HZ12 := hid hz12; clear hz12)
                | (have ha12 := then_a H11.out.2.2 hb12; have hz12 := ha12.2; have HB12 := hid ha12.1; clear ha12 hb12; obtain ⟨r0, r1, r2⟩ := hz12.1.cells; have f0 := unfrozen_of_block hz12.1 0; have f1 := unfrozen_of_block hz12.1 1; have f2 := unfrozen_of_block hz12.1 2; have HZ12 := hid hz12; clear hz12)
                | (have HB12 := hid (below_on H11.out.2.2 hb12); clear hb12)))
            all_goals first
              | (go_wp2_with fail; go_meet; exact ⟨_, ap, cpp, rfl, hid (l1_store HZ12.out HB12.out)⟩)
              | (go_wp2_with fail; go_meet; exact ⟨_, ap, cpp, rfl, hid (l1_new HB12.out)⟩)
          case rest =>
          obtain ⟨z, ap, cpp, rfl, HL⟩ := hcut
          obtain ⟨BC, hBC⟩ : ∃ BC, BC = bc x.natAbs := ⟨_, rfl⟩
          have hBCb : BC ≤ 8 := by rw [hBC]; exact bc_le 8 x.natAbs (by have := HX.out; omega)
          have hpw : ((PW : Int) == 1 + (MW : Int) + (1 + (BC : Int))) = true := by rw [beq_iff_eq]; have := HPW.out; omega
          have HA := hid (fun wx => absU64_any x wx HX.out)
          have HBC := hid (fun wx => byteCount_any x.natAbs wx (by have := HX.out; omega))
          rw [← hBC] at HBC
          clear hBC HPW H10 hlt10 k0 k1 k2
          obtain ⟨A, hA⟩ : ∃ A, A = x.natAbs := ⟨_, rfl⟩
          rw [← hA] at HA HBC
          clear hA
          obtain ⟨k0, k1, k2⟩ := HL.out.1.cells
          go_wp2_with fail
          clear k0 k1 k2
          refine (extent_any ap 2 cpp 2 PW wc).mono ?_
          rintro e w13 ⟨rfl, hb13⟩
          have H13 := hid (HL.out.on hb13)
          clear hb13 HL
          obtain ⟨k0, k1, k2⟩ := H13.out.1.cells
          go_wp2_with fail
          clear k0 k1 k2
          refine (len_any ap 2 cpp 2 PW w13).mono ?_
          rintro e w14 ⟨rfl, hb14⟩
          have H14 := hid (H13.out.on hb14)
          clear hb14 H13
          go_wp2_with fail
          refine (HA.out w14).mono ?_
          rintro e w' ⟨rfl, hw⟩
          have hw2 := hw.symm
          clear hw
          subst hw2
          go_wp2_with fail
          refine (HBC.out w14).mono ?_
          rintro e w' ⟨rfl, hw⟩
          have hw2 := hw.symm
          clear hw
          subst hw2
          go_wp2_with fail
          go_ret
          exact ⟨rfl, H14.out.2.2⟩
    · go_ret
      exact ⟨rfl, Below.refl _ _⟩
  | some ad =>
    have hsx : ∀ wx, (binOp .neq 22 (.slice (some ad) ss.length cap) (.slice none 0 0)).run Try.prog wx = .ok (.bool true) wx := fun wx => run_neq_slice_nil_any wx 22 9 (some ad) ss.length cap 0 0 Try.underlying22
    clear hnil
    go_enter Try.func4, Try.ntmps4
    go_wp2_with (first
      | (go_at_call 16; refine HBY.out.mono ?_; rintro e w' ⟨⟨β, rfl⟩, hw⟩; have hw2 := hw.symm; clear hw; subst hw2; cases β)
      | (go_at_call 7; refine HSO.out.mono ?_; rintro e w' ⟨⟨β, rfl, hso⟩, hw⟩; have hw2 := hw.symm; clear hw; subst hw2; have hor : (β = false ∧ Hid (16 * ss.length + tot ss ≤ 1048576)) ∨ β = true := (by cases β; exact .inl ⟨rfl, hso rfl⟩; exact .inr rfl); clear hso; rcases hor with ⟨rfl, HSS⟩ | rfl)
      | (go_at_call 8; refine HUT.out.mono ?_; rintro e w' ⟨⟨β, rfl⟩, hw⟩; have hw2 := hw.symm; clear hw; subst hw2; cases β)
      | (at_make; refine wpList_make_full _ rfl (.tmp 29) (.tmp 29) 22 rfl w.heap.size 9 i0 (.string .empty) 1 Try.underlying22 hinf hz0 hz1 .i64 .i64 _ _ ss.length rfl rfl rfl rfl (by rw [hz2]; have := HSS.out; omega) (by unfold maxLen; omega) (Nat.le_refl _) ?_; intro w1 hown hgr; obtain ⟨L, hL, hblk⟩ := own_block hown; have hbel : Below w.heap.size w w1 := (Below.refl _ _).grown hgr (Nat.le_refl _) (by simp); clear hown hgr)
      | (refine wpList_copy_splice rfl (.tmp 31) (.tmp 32) 22 22 rfl 9 Try.underlying22 size9 _ _ _ _ _ _ rfl rfl w.heap.size 0 L 9 hblk (ss.map Value.string) MX.out (fun _ => ⟨rfl, ad, rfl, rs_cells (Rv.below HS0.out hbel)⟩) (by rw [hL]; exact FX.out) (strings_oneCell _) w.heap.size w hbel (Nat.le_refl _) ?_; intro w2 HK hb2; have HW2 := hid hb2; have HL2 := hid hL; clear hblk hbel hb2 hL))
    · go_ret
      exact ⟨rfl, Below.refl _ _⟩
    · go_ret
      exact ⟨rfl, Below.refl _ _⟩
    · skip
      have HS : Hid (Rs w2.heap.size w2 (.slice (some ⟨w.heap.size, 0, none⟩) ss.length ss.length) ss) := copied (by have := HSS.out; omega) HL2.out HK.out
      have HB := HW2
      clear HK HL2
      have HZT := HSS
      have hn : ss.length ≤ 65536 := by have := HZT.out; omega
      clear HSS HBY HSO HUT HS0
      obtain ⟨T, hT⟩ : ∃ T, T = ss.length + tot ss := ⟨_, rfl⟩
      have hTb : T ≤ 1048576 := by have := HZT.out; omega
      have HT := hid hT
      clear hT
      go_loop [6, 7] (fun t i => ∃ k U : Nat, k ≤ ss.length ∧ i = .int .i64 k ∧ t = .int .i64 U ∧ U ≤ 1048576 ∧ Hid (U = ss.length + tot (ss.take k))) (fun _ i => ss.length - (intOf i).toNat)
      case atStart => exact ⟨0, ss.length, Nat.zero_le _, rfl, rfl, by omega, by show _ = _; simp [tot]⟩
      case round =>
        obtain ⟨k, U, hk, rfl, rfl, hU, HU⟩ := hrel
        by_cases hlt : (k : Int) < ss.length
        · have hkn : k < ss.length := by omega
          obtain ⟨aa, cc, e, -, -, -, hc⟩ := HS.out.parts
          simp only [Value.slice.injEq] at e
          obtain ⟨e1, -, -⟩ := e
          obtain ⟨b, off, e2, hlb, hx⟩ := hc k hkn
          rw [e2] at e1
          clear hc
          have ht := tot_take ss k hkn
          have hle := tot_take_le ss (k + 1)
          have HU2 : Hid (U + (ss.getD k .empty).size = ss.length + tot (ss.take (k + 1))) := by
            show _ = _
            rw [ht, HU.out]; omega
          have hub : U + (ss.getD k .empty).size ≤ 1048576 := by have := HU2.out; have := HZT.out; omega
          obtain ⟨s, hse⟩ : ∃ s, s = ss.getD k .empty := ⟨_, rfl⟩
          rw [← hse] at hx HU2 hub
          clear ht hse hle
          simp only [Option.some.injEq, Addr.mk.injEq] at e1
          obtain ⟨rfl, rfl, -⟩ := e1
          rw [Nat.zero_add] at hx
          clear e2
          go_wp2
          refine ⟨⟨k + 1, U + s.size, by omega, by go_num, by go_num, by omega, HU2⟩, ?_⟩
          simp [intOf]; omega
        · have hke : k = ss.length := by omega
          subst hke
          have hUT : U = T := by
            have := HU.out
            rw [List.take_length] at this
            rw [HT.out]; exact this
          subst hUT
          clear HU hU hk hlt
          have HC9 := hid (fun (wx : World) (h : Rs wx.heap.size wx (.slice (some ⟨w.heap.size, 0, none⟩) ss.length ss.length) ss) => stringList_any _ ss wx h HZT.out)
          rw [← HT.out] at HC9
          obtain ⟨MW, hMW⟩ : ∃ MW, MW = (1 + U) + (1 + U) := ⟨_, rfl⟩
          have HMW := hid hMW
          have hMWb : MW ≤ 2097154 := by omega
          have hmw1 : ((MW : Int) != 2 * (1 + (U : Int))) = false := by rw [bne_eq_false_iff_eq]; omega
          clear hMW HSZ HZT
          go_wp2_with fail
          refine (HC9.out _ HS.out).mono ?_
          rintro e w3 ⟨⟨al, cpl, rfl, hcpl⟩, hbe3⟩
          have HB3 := hid (below_on HB.out hbe3)
          unfold lv
          clear hbe3
          obtain ⟨w4, hw4, hlb4, hbe4, hlt4⟩ := alloc_lb w3 (.slice al ss.length cpl) U
          have HW4 := hid hw4
          have H4 : Hid (L1 w w4 w3.heap.size (.slice al ss.length cpl) 0 U) := ⟨hlb4, hlt4, below_on HB3.out hbe4⟩
          clear hw4 hlb4 hbe4 HS HB HB3 HC9 hlt4
          go_wp2_with fail
          rw [← HW4.out]
          refine (extent_any al ss.length cpl 0 U w4).mono ?_
          rintro e w5 ⟨rfl, hb5⟩
          have H5 := hid (H4.out.on hb5)
          clear hb5 H4 HW4
          obtain ⟨k0, k1, k2⟩ := H5.out.1.cells
          go_wp2_with fail
          clear k0 k1 k2
          refine (len_any al ss.length cpl 0 U w5).mono ?_
          rintro e w6 ⟨rfl, hb6⟩
          have H6 := hid (H5.out.on hb6)
          clear hb6 H5
          obtain ⟨k0, k1, k2⟩ := H6.out.1.cells
          go_wp2_with fail
          clear k0 k1 k2
          refine (pair_any 30 30 (lv al ss.length cpl 0 U) (lv al ss.length cpl 0 U) (0 + 1) (1 + U) (0 + 1) (1 + U) w6 (meas_list _ _ _ _ _ (by omega) (by omega)) (meas_list _ _ _ _ _ (by omega) (by omega)) (by omega) (by omega) (by omega) (by omega)).mono ?_
          rintro e w7 ⟨⟨am, cpm, rfl, hcpm⟩, hb7⟩
          have HB7 := hid (H6.out.on hb7).2.2
          rw [← HMW.out]
          have emax : max (0 + 1) (0 + 1) = 1 := rfl
          rw [emax]
          clear emax hb7 H6
          unfold lv
          obtain ⟨w8, hw8, hlb8, hbe8, hlt8⟩ := alloc_lbd w7 (.slice am 2 cpm) 1 MW 1 rfl
          have HW8 := hid hw8
          have H8 : Hid (L1 w w8 w7.heap.size (.slice am 2 cpm) 1 MW) := ⟨hlb8, hlt8, below_on HB7.out hbe8⟩
          clear hw8 hlb8 hbe8 hlt8 HB7
          go_wp2_with fail
          rw [← HW8.out]
          refine (extent_any am 2 cpm 1 MW w8).mono ?_
          rintro e w9 ⟨rfl, hb9⟩
          have H9 := hid (H8.out.on hb9)
          clear hb9 H8 HW8
          obtain ⟨k0, k1, k2⟩ := H9.out.1.cells
          go_wp2_with fail
          clear k0 k1 k2
          refine (len_any am 2 cpm 1 MW w9).mono ?_
          rintro e w10 ⟨rfl, hb10⟩
          have H10 := hid (H9.out.on hb10)
          clear hb10 H9
          obtain ⟨k0, k1, k2⟩ := H10.out.1.cells
          go_wp2_with fail
          obtain ⟨PW, hPW⟩ : ∃ PW, PW = (1 + MW) + (1 + bc x.natAbs) := ⟨_, rfl⟩
          have HPW := hid hPW
          clear hPW
          have hlt10 : w7.heap.size < w10.heap.size := H10.out.2.1
          go_cut [14] from 95 to 100 (fun s14 wx => ∃ z ap cpp, s14 = .pointer (some ⟨z, 0, none⟩) ∧ Hid (L1 w wx z (.slice ap 2 cpp) 2 PW))
          case first =>
            go_region_with (first
              | (go_at_call 12; refine (zzInteger_any x _ HX.out).mono ?_; rintro e w11 ⟨g, rfl, hip, hb11⟩; have HIP := hid hip; clear hip; first
                | (have ha11 := after_a H10.out hb11; have HZ11 := hid ha11.2; have H11 := hid ha11.1; clear ha11 hb11; obtain ⟨j0, j1, j2⟩ := H11.out.1.cells; have hlt11 : w7.heap.size < w11.heap.size := H11.out.2.1)
                | (have ha11 := after_n H10.out hb11; have H11 := hid ha11; clear ha11 hb11; obtain ⟨j0, j1, j2⟩ := H11.out.1.cells; have hlt11 : w7.heap.size < w11.heap.size := H11.out.2.1))
              | (go_at_call 13; refine (pairMI hM am cpm MW PW g x _ hMWb HPW.out HX.out ?_).mono ?_; (first | exact HIP.out | exact ip_alloc HIP.out); rintro e w12 ⟨⟨ap, cpp, rfl⟩, hb12⟩; first
                | (have hz12 := HZ11.out.on hb12; have HB12 := hid (below_on H11.out.2.2 hb12); clear hb12; obtain ⟨r0, r1, r2⟩ := hz12.1.cells; have f0 := unfrozen_of_block hz12.1 0; have f1 := unfrozen_of_block hz12.1 1; have f2 := unfrozen_of_block hz12.1 2; have HZ12 := hid hz12; clear hz12)
                | (have ha12 := then_a H11.out.2.2 hb12; have hz12 := ha12.2; have HB12 := hid ha12.1; clear ha12 hb12; obtain ⟨r0, r1, r2⟩ := hz12.1.cells; have f0 := unfrozen_of_block hz12.1 0; have f1 := unfrozen_of_block hz12.1 1; have f2 := unfrozen_of_block hz12.1 2; have HZ12 := hid hz12; clear hz12)
                | (have HB12 := hid (below_on H11.out.2.2 hb12); clear hb12)))
            all_goals first
              | (go_wp2_with fail; go_meet; exact ⟨_, ap, cpp, rfl, hid (l1_store HZ12.out HB12.out)⟩)
              | (go_wp2_with fail; go_meet; exact ⟨_, ap, cpp, rfl, hid (l1_new HB12.out)⟩)
          case rest =>
          obtain ⟨z, ap, cpp, rfl, HL⟩ := hcut
          obtain ⟨BC, hBC⟩ : ∃ BC, BC = bc x.natAbs := ⟨_, rfl⟩
          have hBCb : BC ≤ 8 := by rw [hBC]; exact bc_le 8 x.natAbs (by have := HX.out; omega)
          have hpw : ((PW : Int) == 1 + (MW : Int) + (1 + (BC : Int))) = true := by rw [beq_iff_eq]; have := HPW.out; omega
          have HA := hid (fun wx => absU64_any x wx HX.out)
          have HBC := hid (fun wx => byteCount_any x.natAbs wx (by have := HX.out; omega))
          rw [← hBC] at HBC
          clear hBC HPW H10 hlt10 k0 k1 k2
          obtain ⟨A, hA⟩ : ∃ A, A = x.natAbs := ⟨_, rfl⟩
          rw [← hA] at HA HBC
          clear hA
          obtain ⟨k0, k1, k2⟩ := HL.out.1.cells
          go_wp2_with fail
          clear k0 k1 k2
          refine (extent_any ap 2 cpp 2 PW wc).mono ?_
          rintro e w13 ⟨rfl, hb13⟩
          have H13 := hid (HL.out.on hb13)
          clear hb13 HL
          obtain ⟨k0, k1, k2⟩ := H13.out.1.cells
          go_wp2_with fail
          clear k0 k1 k2
          refine (len_any ap 2 cpp 2 PW w13).mono ?_
          rintro e w14 ⟨rfl, hb14⟩
          have H14 := hid (H13.out.on hb14)
          clear hb14 H13
          go_wp2_with fail
          refine (HA.out w14).mono ?_
          rintro e w' ⟨rfl, hw⟩
          have hw2 := hw.symm
          clear hw
          subst hw2
          go_wp2_with fail
          refine (HBC.out w14).mono ?_
          rintro e w' ⟨rfl, hw⟩
          have hw2 := hw.symm
          clear hw
          subst hw2
          go_wp2_with fail
          go_ret
          exact ⟨rfl, H14.out.2.2⟩
    · go_ret
      exact ⟨rfl, Below.refl _ _⟩
end Go.Proofs.Qxb6609148a
