import Derived.Test.Qxb6609120aDoorTail
namespace Go.Proofs.Qxb6609120aDoor
open Go.RowKit Go.Joins

theorem own_block {w : World} {B e g n : Nat} {xs : List Value} (h : w.ownsRow B e 1 (.slice (some ⟨g, 0, none⟩) n n) n xs) : ∃ L : List Value, L.length = n ∧ w.heap[g]? = some (.cells L.toArray e) := by
  rcases h.2 with ⟨h1, _⟩ | ⟨g', cap, cur, h1, _, h2, _, _, h3, _⟩
  · simp at h1
  · simp only [Value.slice.injEq, Option.some.injEq, Addr.mk.injEq] at h1
    obtain ⟨⟨rfl, -, -⟩, -, rfl⟩ := h1
    exact ⟨cur.toList, by simpa using h3, by simpa using h2⟩
theorem ownsRow_of_block {w : World} {B e g n : Nat} {L : List Value} (hB : B ≤ g) (hn : L.length = n) (hm : n ≤ maxLen) (h : w.heap[g]? = some (.cells L.toArray e)) : w.ownsRow B e 1 (.slice (some ⟨g, 0, none⟩) n n) n L :=
  ⟨by simp [hn], .inr ⟨g, n, L.toArray, rfl, hB, h, Nat.le_refl _, hm, by simp [hn], by simp [← hn]⟩⟩
theorem splice_all {α : Type} (L cs : List α) (h : L.length = cs.length) : splice L 0 cs = cs := by
  unfold splice; simp [← h]

theorem copied {w : World} {g : Nat} {L : List Value} {xs : List Int} (hl : xs.length ≤ 65536) (hL : L.length = xs.length) (h : w.heap[g]? = some (.cells (splice L 0 (xs.map (Value.int .u64))).toArray 29)) :
    Rd .u64 w.heap.size w (.slice (some ⟨g, 0, none⟩) xs.length xs.length) xs := by
  rw [splice_all _ _ (by simpa using hL)] at h
  have h2 : Own 29 .u64 g w (.slice (some ⟨g, 0, none⟩) xs.length xs.length) xs := ownsRow_of_block (Nat.le_refl _) (by simp) (by unfold maxLen; omega) h
  exact h2.rd (by omega)

theorem u64s_app {a b : List Int} (ha : U64s a) (hb : U64s b) : U64s (a ++ b) := by
  intro k hk
  by_cases h : k < a.length
  · have := ha k h
    rwa [List.getD_eq_getElem?_getD, List.getElem?_append_left h, ← List.getD_eq_getElem?_getD]
  · have := hb (k - a.length) (by simp at hk; omega)
    rwa [List.getD_eq_getElem?_getD, List.getElem?_append_right (by omega), ← List.getD_eq_getElem?_getD]

theorem Own.ends {E : TypeId} {K : IntKind} {B : Nat} {w : World} {v : Value} {xs : List Int} (h : Own E K B w v xs) (hl : xs.length ≤ 140737488355328) : ∃ ao cap, v = .slice ao xs.length cap ∧ Rd K w.heap.size w (.slice ao xs.length cap) xs ∧ cap ≤ 9223372036854775807 := by
  have h2 := h.rd hl
  obtain ⟨ao, cap, rfl, h3, h4, h5⟩ := h.rd hl
  exact ⟨ao, cap, rfl, h2, h4.2⟩

set_option maxHeartbeats 40000000 in
set_option maxRecDepth 100000 in
theorem walk (vx vy : Value) (xs ys : List Int) (w : World) (hx : Rd .u64 w.heap.size w vx xs) (hy : Rd .u64 w.heap.size w vy ys) (ux : U64s xs) (uy : U64s ys) :
    Calls Tryd.prog 3 #[vx, vy] w fun e w' => e = .returned (.bool true) ∧ Below w.heap.size w w' := by
  have HX0 := hid hx
  have HY0 := hid hy
  have UX := hid ux
  have UY := hid uy
  have UI := hid (u64s_app ux uy)
  have HBY := hid (zzBytes_any _ _ vx vy xs ys w hx hy)
  clear ux uy
  obtain ⟨ax, cx, rfl, hlx, hmx, -, -⟩ := hx
  obtain ⟨ay, cy, rfl, hly, hmy, -, -⟩ := hy
  obtain ⟨i0, hinf, hz0, hz1, hz2⟩ := info_parts info29
  by_cases hxb : (xs.length : Int) ≤ 65536
  · by_cases hyb : (ys.length : Int) ≤ 65536
    · have MX : Hid ((xs.map (Value.int .u64)).length = xs.length.min xs.length) := by show _ = min _ _; simp
      have MY : Hid ((ys.map (Value.int .u64)).length = ys.length.min ys.length) := by show _ = min _ _; simp
      have FX : Hid (0 + (xs.map (Value.int .u64)).length ≤ xs.length) := by show _ ≤ _; simp
      have FY : Hid (0 + (ys.map (Value.int .u64)).length ≤ ys.length) := by show _ ≤ _; simp
      cases ax with
      | none =>
        have hsx : ∀ wx, (binOp .neq 22 (.slice none xs.length cx) (.slice none 0 0)).run Tryd.prog wx = .ok (.bool false) wx := fun wx => run_neq_slice_nil_any wx 22 29 none xs.length cx 0 0 Tryd.underlying22
        cases ay with
        | none =>
          have hsy : ∀ wx, (binOp .neq 22 (.slice none ys.length cy) (.slice none 0 0)).run Tryd.prog wx = .ok (.bool false) wx := fun wx => run_neq_slice_nil_any wx 22 29 none ys.length cy 0 0 Tryd.underlying22
          go_enter Tryd.func3, Tryd.ntmps3
          go_wp2_with (go_at_call 7; refine HBY.out.mono ?_; rintro e w' ⟨⟨β, rfl⟩, hw⟩; have hw2 := hw.symm; clear hw; subst hw2; cases β)
          · go_ret
            exact ⟨rfl, Below.refl _ _⟩
          · go_wp2_with fail
            refine (zzJoinU64_any _ _ xs ys w HX0.out HY0.out (by omega) (by omega)).mono ?_
            rintro e w3 ⟨v3, rfl, ho3, hb3⟩
            obtain ⟨a3, c3, rfl, hr3, hm3⟩ := ho3.ends (by simp; omega)
            have HI3 := hid hr3
            have HX3 := hid (HX0.out.on hb3)
            have HY3 := hid (HY0.out.on hb3)
            have HB3 := hid (below_on (Below.refl _ _) hb3)
            clear ho3 hb3 hr3
            obtain ⟨ids, hids⟩ : ∃ ids, ids = xs ++ ys := ⟨_, rfl⟩
            have hil : ids.length = xs.length + ys.length := by rw [hids]; simp
            rw [← hids] at HI3 UI ⊢
            have HFA : Hid (flat ids = flat xs ++ flat ys) := by rw [hids]; exact flat_app xs ys
            have hcx : IntKind.u64.wrap (xs.length : Int) = xs.length := u64_wrap_id _ (by omega) (by omega)
            have hcy : IntKind.u64.wrap (ys.length : Int) = ys.length := u64_wrap_id _ (by omega) (by omega)
            have hci : IntKind.u64.wrap (ids.length : Int) = ids.length := u64_wrap_id _ (by omega) (by omega)
            have hib : (ids.length : Int) ≤ 131072 := by omega
            clear hids hil
            go_wp2_with fail
            refine (newEdit_any _ _ _ w3).mono ?_
            rintro e w4 ⟨p4, rfl, he4, hb4⟩
            have HE4 := hid he4
            have HI4 := hid (HI3.out.on hb4)
            have HX4 := hid (HX3.out.on hb4)
            have HY4 := hid (HY3.out.on hb4)
            have HB4 := hid (below_on HB3.out hb4)
            clear he4 hb4
            go_wp2_with fail
            refine (encodeEdit_any p4 _ ids w4 HE4.out HI4.out UI.out (by omega)).mono ?_
            rintro e w5 ⟨v5, rfl, ho5, hb5⟩
            have HO5 := hid ho5
            have HI5 := hid (HI4.out.on hb5)
            have HX5 := hid (HX4.out.on hb5)
            have HY5 := hid (HY4.out.on hb5)
            have HB5 := hid (below_on HB4.out hb5)
            have HFI := hid (flat_len ids UI.out)
            have HFX := hid (flat_len xs UX.out)
            have HFY := hid (flat_len ys UY.out)
            have HR5 : Hid (Rd .u8 w5.heap.size w5 v5 (rec4 ids.length (flat ids))) := by
              have h1 := HFI.out
              have h2 := uv_len_le ids.length (by omega)
              refine hid (Own.rd (xs := 4 :: idb ids) HO5.out ?_)
              unfold idb
              simp only [List.length_cons, List.length_append]
              omega
            clear ho5 hb5 HO5 HE4
            go_wp2_with fail
            refine (newEdit_any _ _ _ w5).mono ?_
            rintro e w6 ⟨p6, rfl, he6, hb6⟩
            have HE6 := hid he6
            have HR6 := hid (HR5.out.on hb6)
            have HI6 := hid (HI5.out.on hb6)
            have HX6 := hid (HX5.out.on hb6)
            have HY6 := hid (HY5.out.on hb6)
            have HB6 := hid (below_on HB5.out hb6)
            clear he6 hb6
            go_wp2_with fail
            refine (encodeEdit_any p6 _ xs w6 HE6.out HX6.out UX.out (by omega)).mono ?_
            rintro e w7 ⟨v7, rfl, ho7, hb7⟩
            have HO7 := hid ho7
            have HR7 := hid (HR6.out.on hb7)
            have HI7 := hid (HI6.out.on hb7)
            have HY7 := hid (HY6.out.on hb7)
            have HB7 := hid (below_on HB6.out hb7)
            have HS7 : Hid (Rd .u8 w7.heap.size w7 v7 (rec4 xs.length (flat xs))) := by
              have h1 := HFX.out
              have h2 := uv_len_le xs.length (by omega)
              refine hid (Own.rd (xs := 4 :: idb xs) HO7.out ?_)
              unfold idb
              simp only [List.length_cons, List.length_append]
              omega
            clear ho7 hb7 HO7 HE6
            go_wp2_with fail
            refine (newEdit_any _ _ _ w7).mono ?_
            rintro e w8 ⟨p8, rfl, he8, hb8⟩
            have HE8 := hid he8
            have HR8 := hid (HR7.out.on hb8)
            have HS8 := hid (HS7.out.on hb8)
            have HI8 := hid (HI7.out.on hb8)
            have HY8 := hid (HY7.out.on hb8)
            have HB8 := hid (below_on HB7.out hb8)
            clear he8 hb8
            go_wp2_with fail
            refine (encodeEdit_any p8 _ ys w8 HE8.out HY8.out UY.out (by omega)).mono ?_
            rintro e w9 ⟨v9, rfl, ho9, hb9⟩
            have HO9 := hid ho9
            have HR9 := hid (HR8.out.on hb9)
            have HS9 := hid (HS8.out.on hb9)
            have HI9 := hid (HI8.out.on hb9)
            have HB9 := hid (below_on HB8.out hb9)
            have HT9 : Hid (Rd .u8 w9.heap.size w9 v9 (rec4 ys.length (flat ys))) := by
              have h1 := HFY.out
              have h2 := uv_len_le ys.length (by omega)
              refine hid (Own.rd (xs := 4 :: idb ys) HO9.out ?_)
              unfold idb
              simp only [List.length_cons, List.length_append]
              omega
            clear ho9 hb9 HO9 HE8
            go_wp2_with fail
            refine (zzIDRecord_any _ _ _ _ ids w9 (by omega) UI.out HR9.out HI9.out).mono ?_
            rintro e w' ⟨rfl, hw⟩
            have hw2 := hw.symm
            clear hw
            subst hw2
            go_wp2_with fail
            refine (zzIDTail_any _ _ ids.length _ w9 (by omega) HR9.out).mono ?_
            rintro e w' ⟨t1, rfl, HT1, hw⟩
            have hw2 := hw.symm
            clear hw
            subst hw2
            go_wp2_with fail
            refine (zzIDTail_any _ _ xs.length _ w9 (by omega) HS9.out).mono ?_
            rintro e w' ⟨t2, rfl, HT2, hw⟩
            have hw2 := hw.symm
            clear hw
            subst hw2
            go_wp2_with fail
            refine (zzIDTail_any _ _ ys.length _ w9 (by omega) HT9.out).mono ?_
            rintro e w' ⟨t3, rfl, HT3, hw⟩
            have hw2 := hw.symm
            clear hw
            subst hw2
            go_wp2_with fail
            refine (zzJoinBytes_any _ _ _ _ w9 HT2.out HT3.out (by have := HFX.out; omega) (by have := HFY.out; omega)).mono ?_
            rintro e w10 ⟨v10, rfl, ho10, hb10⟩
            have HQ10 : Hid (Rd .u8 w10.heap.size w10 v10 (flat ids)) := by
              have h := ho10.rd (by have := HFX.out; have := HFY.out; simp only [List.length_append]; omega)
              rw [← HFA.out] at h
              exact h
            have HT10 := hid (HT1.out.on hb10)
            have HB10 := hid (below_on HB9.out hb10)
            clear ho10 hb10
            go_wp2_with fail
            refine (bytesEqual_same _ _ _ _ (flat ids) w10 HT10.out HQ10.out).mono ?_
            rintro e w11 ⟨rfl, nd, hw⟩
            have HB11 : Hid (Below w.heap.size w w11) := by rw [hw]; exact ⟨HB10.out.os, HB10.out.tape, HB10.out.output, HB10.out.size, HB10.out.block⟩
            clear hw
            go_wp2_with fail
            go_ret
            exact ⟨rfl, HB11.out⟩
        | some ay =>
          have hsy : ∀ wx, (binOp .neq 22 (.slice (some ay) ys.length cy) (.slice none 0 0)).run Tryd.prog wx = .ok (.bool true) wx := fun wx => run_neq_slice_nil_any wx 22 29 (some ay) ys.length cy 0 0 Tryd.underlying22
          go_enter Tryd.func3, Tryd.ntmps3
          go_wp2_with (first
              | (go_at_call 7; refine HBY.out.mono ?_; rintro e w' ⟨⟨β, rfl⟩, hw⟩; have hw2 := hw.symm; clear hw; subst hw2; cases β)
              | (at_make; refine wpList_make_full _ rfl (.tmp 39) (.tmp 39) 22 rfl w.heap.size 29 i0 (.int .u64 0) 1 Tryd.underlying22 hinf hz0 hz1 .i64 .i64 _ _ ys.length rfl rfl rfl rfl (by rw [hz2]; omega) (by unfold maxLen; omega) (Nat.le_refl _) ?_; intro w1 hown hgr; obtain ⟨Ly, hLy, hblky⟩ := own_block hown; have hbely : Below w.heap.size w w1 := (Below.refl _ _).grown hgr (Nat.le_refl _) (by simp); clear hown hgr)
              | (refine wpList_copy_splice rfl (.tmp 41) (.tmp 42) 22 22 rfl 29 Tryd.underlying22 size29 _ _ _ _ _ _ rfl rfl w.heap.size 0 Ly 29 hblky (ys.map (Value.int .u64)) MY.out (fun _ => ⟨rfl, ay, rfl, cells_rd (HY0.out.below hbely)⟩) (by rw [hLy]; exact FY.out) (ints_oneCell _ _) w.heap.size w hbely (Nat.le_refl _) ?_; intro w2 HKy hby; have HWy := hid hby; have HLy := hid hLy; clear hblky hbely hby hLy))
          · go_ret
            exact ⟨rfl, Below.refl _ _⟩
          · skip
            have HY : Hid (Rd .u64 w2.heap.size w2 (.slice (some ⟨w.heap.size, 0, none⟩) ys.length ys.length) ys) := copied (by omega) HLy.out HKy.out
            have HX := hid (HX0.out.on HWy.out)
            have HB := HWy
            clear HX0 HY0 HBY HKy HLy
            refine (zzJoinU64_any _ _ xs ys w2 HX.out HY.out (by omega) (by omega)).mono ?_
            rintro e w3 ⟨v3, rfl, ho3, hb3⟩
            obtain ⟨a3, c3, rfl, hr3, hm3⟩ := ho3.ends (by simp; omega)
            have HI3 := hid hr3
            have HX3 := hid (HX.out.on hb3)
            have HY3 := hid (HY.out.on hb3)
            have HB3 := hid (below_on HB.out hb3)
            clear ho3 hb3 hr3
            obtain ⟨ids, hids⟩ : ∃ ids, ids = xs ++ ys := ⟨_, rfl⟩
            have hil : ids.length = xs.length + ys.length := by rw [hids]; simp
            rw [← hids] at HI3 UI ⊢
            have HFA : Hid (flat ids = flat xs ++ flat ys) := by rw [hids]; exact flat_app xs ys
            have hcx : IntKind.u64.wrap (xs.length : Int) = xs.length := u64_wrap_id _ (by omega) (by omega)
            have hcy : IntKind.u64.wrap (ys.length : Int) = ys.length := u64_wrap_id _ (by omega) (by omega)
            have hci : IntKind.u64.wrap (ids.length : Int) = ids.length := u64_wrap_id _ (by omega) (by omega)
            have hib : (ids.length : Int) ≤ 131072 := by omega
            clear hids hil
            go_wp2_with fail
            refine (newEdit_any _ _ _ w3).mono ?_
            rintro e w4 ⟨p4, rfl, he4, hb4⟩
            have HE4 := hid he4
            have HI4 := hid (HI3.out.on hb4)
            have HX4 := hid (HX3.out.on hb4)
            have HY4 := hid (HY3.out.on hb4)
            have HB4 := hid (below_on HB3.out hb4)
            clear he4 hb4
            go_wp2_with fail
            refine (encodeEdit_any p4 _ ids w4 HE4.out HI4.out UI.out (by omega)).mono ?_
            rintro e w5 ⟨v5, rfl, ho5, hb5⟩
            have HO5 := hid ho5
            have HI5 := hid (HI4.out.on hb5)
            have HX5 := hid (HX4.out.on hb5)
            have HY5 := hid (HY4.out.on hb5)
            have HB5 := hid (below_on HB4.out hb5)
            have HFI := hid (flat_len ids UI.out)
            have HFX := hid (flat_len xs UX.out)
            have HFY := hid (flat_len ys UY.out)
            have HR5 : Hid (Rd .u8 w5.heap.size w5 v5 (rec4 ids.length (flat ids))) := by
              have h1 := HFI.out
              have h2 := uv_len_le ids.length (by omega)
              refine hid (Own.rd (xs := 4 :: idb ids) HO5.out ?_)
              unfold idb
              simp only [List.length_cons, List.length_append]
              omega
            clear ho5 hb5 HO5 HE4
            go_wp2_with fail
            refine (newEdit_any _ _ _ w5).mono ?_
            rintro e w6 ⟨p6, rfl, he6, hb6⟩
            have HE6 := hid he6
            have HR6 := hid (HR5.out.on hb6)
            have HI6 := hid (HI5.out.on hb6)
            have HX6 := hid (HX5.out.on hb6)
            have HY6 := hid (HY5.out.on hb6)
            have HB6 := hid (below_on HB5.out hb6)
            clear he6 hb6
            go_wp2_with fail
            refine (encodeEdit_any p6 _ xs w6 HE6.out HX6.out UX.out (by omega)).mono ?_
            rintro e w7 ⟨v7, rfl, ho7, hb7⟩
            have HO7 := hid ho7
            have HR7 := hid (HR6.out.on hb7)
            have HI7 := hid (HI6.out.on hb7)
            have HY7 := hid (HY6.out.on hb7)
            have HB7 := hid (below_on HB6.out hb7)
            have HS7 : Hid (Rd .u8 w7.heap.size w7 v7 (rec4 xs.length (flat xs))) := by
              have h1 := HFX.out
              have h2 := uv_len_le xs.length (by omega)
              refine hid (Own.rd (xs := 4 :: idb xs) HO7.out ?_)
              unfold idb
              simp only [List.length_cons, List.length_append]
              omega
            clear ho7 hb7 HO7 HE6
            go_wp2_with fail
            refine (newEdit_any _ _ _ w7).mono ?_
            rintro e w8 ⟨p8, rfl, he8, hb8⟩
            have HE8 := hid he8
            have HR8 := hid (HR7.out.on hb8)
            have HS8 := hid (HS7.out.on hb8)
            have HI8 := hid (HI7.out.on hb8)
            have HY8 := hid (HY7.out.on hb8)
            have HB8 := hid (below_on HB7.out hb8)
            clear he8 hb8
            go_wp2_with fail
            refine (encodeEdit_any p8 _ ys w8 HE8.out HY8.out UY.out (by omega)).mono ?_
            rintro e w9 ⟨v9, rfl, ho9, hb9⟩
            have HO9 := hid ho9
            have HR9 := hid (HR8.out.on hb9)
            have HS9 := hid (HS8.out.on hb9)
            have HI9 := hid (HI8.out.on hb9)
            have HB9 := hid (below_on HB8.out hb9)
            have HT9 : Hid (Rd .u8 w9.heap.size w9 v9 (rec4 ys.length (flat ys))) := by
              have h1 := HFY.out
              have h2 := uv_len_le ys.length (by omega)
              refine hid (Own.rd (xs := 4 :: idb ys) HO9.out ?_)
              unfold idb
              simp only [List.length_cons, List.length_append]
              omega
            clear ho9 hb9 HO9 HE8
            go_wp2_with fail
            refine (zzIDRecord_any _ _ _ _ ids w9 (by omega) UI.out HR9.out HI9.out).mono ?_
            rintro e w' ⟨rfl, hw⟩
            have hw2 := hw.symm
            clear hw
            subst hw2
            go_wp2_with fail
            refine (zzIDTail_any _ _ ids.length _ w9 (by omega) HR9.out).mono ?_
            rintro e w' ⟨t1, rfl, HT1, hw⟩
            have hw2 := hw.symm
            clear hw
            subst hw2
            go_wp2_with fail
            refine (zzIDTail_any _ _ xs.length _ w9 (by omega) HS9.out).mono ?_
            rintro e w' ⟨t2, rfl, HT2, hw⟩
            have hw2 := hw.symm
            clear hw
            subst hw2
            go_wp2_with fail
            refine (zzIDTail_any _ _ ys.length _ w9 (by omega) HT9.out).mono ?_
            rintro e w' ⟨t3, rfl, HT3, hw⟩
            have hw2 := hw.symm
            clear hw
            subst hw2
            go_wp2_with fail
            refine (zzJoinBytes_any _ _ _ _ w9 HT2.out HT3.out (by have := HFX.out; omega) (by have := HFY.out; omega)).mono ?_
            rintro e w10 ⟨v10, rfl, ho10, hb10⟩
            have HQ10 : Hid (Rd .u8 w10.heap.size w10 v10 (flat ids)) := by
              have h := ho10.rd (by have := HFX.out; have := HFY.out; simp only [List.length_append]; omega)
              rw [← HFA.out] at h
              exact h
            have HT10 := hid (HT1.out.on hb10)
            have HB10 := hid (below_on HB9.out hb10)
            clear ho10 hb10
            go_wp2_with fail
            refine (bytesEqual_same _ _ _ _ (flat ids) w10 HT10.out HQ10.out).mono ?_
            rintro e w11 ⟨rfl, nd, hw⟩
            have HB11 : Hid (Below w.heap.size w w11) := by rw [hw]; exact ⟨HB10.out.os, HB10.out.tape, HB10.out.output, HB10.out.size, HB10.out.block⟩
            clear hw
            go_wp2_with fail
            go_ret
            exact ⟨rfl, HB11.out⟩
      | some ax =>
        have hsx : ∀ wx, (binOp .neq 22 (.slice (some ax) xs.length cx) (.slice none 0 0)).run Tryd.prog wx = .ok (.bool true) wx := fun wx => run_neq_slice_nil_any wx 22 29 (some ax) xs.length cx 0 0 Tryd.underlying22
        cases ay with
        | none =>
          have hsy : ∀ wx, (binOp .neq 22 (.slice none ys.length cy) (.slice none 0 0)).run Tryd.prog wx = .ok (.bool false) wx := fun wx => run_neq_slice_nil_any wx 22 29 none ys.length cy 0 0 Tryd.underlying22
          go_enter Tryd.func3, Tryd.ntmps3
          go_wp2_with (first
              | (go_at_call 7; refine HBY.out.mono ?_; rintro e w' ⟨⟨β, rfl⟩, hw⟩; have hw2 := hw.symm; clear hw; subst hw2; cases β)
              | (at_make; refine wpList_make_full _ rfl (.tmp 30) (.tmp 30) 22 rfl w.heap.size 29 i0 (.int .u64 0) 1 Tryd.underlying22 hinf hz0 hz1 .i64 .i64 _ _ xs.length rfl rfl rfl rfl (by rw [hz2]; omega) (by unfold maxLen; omega) (Nat.le_refl _) ?_; intro w1 hown hgr; obtain ⟨Lx, hLx, hblkx⟩ := own_block hown; have hbelx : Below w.heap.size w w1 := (Below.refl _ _).grown hgr (Nat.le_refl _) (by simp); clear hown hgr)
              | (refine wpList_copy_splice rfl (.tmp 32) (.tmp 33) 22 22 rfl 29 Tryd.underlying22 size29 _ _ _ _ _ _ rfl rfl w.heap.size 0 Lx 29 hblkx (xs.map (Value.int .u64)) MX.out (fun _ => ⟨rfl, ax, rfl, cells_rd (HX0.out.below hbelx)⟩) (by rw [hLx]; exact FX.out) (ints_oneCell _ _) w.heap.size w hbelx (Nat.le_refl _) ?_; intro w2 HKx hbx; have HWx := hid hbx; have HLx := hid hLx; clear hblkx hbelx hbx hLx))
          · go_ret
            exact ⟨rfl, Below.refl _ _⟩
          · skip
            have HX : Hid (Rd .u64 w2.heap.size w2 (.slice (some ⟨w.heap.size, 0, none⟩) xs.length xs.length) xs) := copied (by omega) HLx.out HKx.out
            have HY := hid (HY0.out.on HWx.out)
            have HB := HWx
            clear HX0 HY0 HBY HKx HLx
            refine (zzJoinU64_any _ _ xs ys w2 HX.out HY.out (by omega) (by omega)).mono ?_
            rintro e w3 ⟨v3, rfl, ho3, hb3⟩
            obtain ⟨a3, c3, rfl, hr3, hm3⟩ := ho3.ends (by simp; omega)
            have HI3 := hid hr3
            have HX3 := hid (HX.out.on hb3)
            have HY3 := hid (HY.out.on hb3)
            have HB3 := hid (below_on HB.out hb3)
            clear ho3 hb3 hr3
            obtain ⟨ids, hids⟩ : ∃ ids, ids = xs ++ ys := ⟨_, rfl⟩
            have hil : ids.length = xs.length + ys.length := by rw [hids]; simp
            rw [← hids] at HI3 UI ⊢
            have HFA : Hid (flat ids = flat xs ++ flat ys) := by rw [hids]; exact flat_app xs ys
            have hcx : IntKind.u64.wrap (xs.length : Int) = xs.length := u64_wrap_id _ (by omega) (by omega)
            have hcy : IntKind.u64.wrap (ys.length : Int) = ys.length := u64_wrap_id _ (by omega) (by omega)
            have hci : IntKind.u64.wrap (ids.length : Int) = ids.length := u64_wrap_id _ (by omega) (by omega)
            have hib : (ids.length : Int) ≤ 131072 := by omega
            clear hids hil
            go_wp2_with fail
            refine (newEdit_any _ _ _ w3).mono ?_
            rintro e w4 ⟨p4, rfl, he4, hb4⟩
            have HE4 := hid he4
            have HI4 := hid (HI3.out.on hb4)
            have HX4 := hid (HX3.out.on hb4)
            have HY4 := hid (HY3.out.on hb4)
            have HB4 := hid (below_on HB3.out hb4)
            clear he4 hb4
            go_wp2_with fail
            refine (encodeEdit_any p4 _ ids w4 HE4.out HI4.out UI.out (by omega)).mono ?_
            rintro e w5 ⟨v5, rfl, ho5, hb5⟩
            have HO5 := hid ho5
            have HI5 := hid (HI4.out.on hb5)
            have HX5 := hid (HX4.out.on hb5)
            have HY5 := hid (HY4.out.on hb5)
            have HB5 := hid (below_on HB4.out hb5)
            have HFI := hid (flat_len ids UI.out)
            have HFX := hid (flat_len xs UX.out)
            have HFY := hid (flat_len ys UY.out)
            have HR5 : Hid (Rd .u8 w5.heap.size w5 v5 (rec4 ids.length (flat ids))) := by
              have h1 := HFI.out
              have h2 := uv_len_le ids.length (by omega)
              refine hid (Own.rd (xs := 4 :: idb ids) HO5.out ?_)
              unfold idb
              simp only [List.length_cons, List.length_append]
              omega
            clear ho5 hb5 HO5 HE4
            go_wp2_with fail
            refine (newEdit_any _ _ _ w5).mono ?_
            rintro e w6 ⟨p6, rfl, he6, hb6⟩
            have HE6 := hid he6
            have HR6 := hid (HR5.out.on hb6)
            have HI6 := hid (HI5.out.on hb6)
            have HX6 := hid (HX5.out.on hb6)
            have HY6 := hid (HY5.out.on hb6)
            have HB6 := hid (below_on HB5.out hb6)
            clear he6 hb6
            go_wp2_with fail
            refine (encodeEdit_any p6 _ xs w6 HE6.out HX6.out UX.out (by omega)).mono ?_
            rintro e w7 ⟨v7, rfl, ho7, hb7⟩
            have HO7 := hid ho7
            have HR7 := hid (HR6.out.on hb7)
            have HI7 := hid (HI6.out.on hb7)
            have HY7 := hid (HY6.out.on hb7)
            have HB7 := hid (below_on HB6.out hb7)
            have HS7 : Hid (Rd .u8 w7.heap.size w7 v7 (rec4 xs.length (flat xs))) := by
              have h1 := HFX.out
              have h2 := uv_len_le xs.length (by omega)
              refine hid (Own.rd (xs := 4 :: idb xs) HO7.out ?_)
              unfold idb
              simp only [List.length_cons, List.length_append]
              omega
            clear ho7 hb7 HO7 HE6
            go_wp2_with fail
            refine (newEdit_any _ _ _ w7).mono ?_
            rintro e w8 ⟨p8, rfl, he8, hb8⟩
            have HE8 := hid he8
            have HR8 := hid (HR7.out.on hb8)
            have HS8 := hid (HS7.out.on hb8)
            have HI8 := hid (HI7.out.on hb8)
            have HY8 := hid (HY7.out.on hb8)
            have HB8 := hid (below_on HB7.out hb8)
            clear he8 hb8
            go_wp2_with fail
            refine (encodeEdit_any p8 _ ys w8 HE8.out HY8.out UY.out (by omega)).mono ?_
            rintro e w9 ⟨v9, rfl, ho9, hb9⟩
            have HO9 := hid ho9
            have HR9 := hid (HR8.out.on hb9)
            have HS9 := hid (HS8.out.on hb9)
            have HI9 := hid (HI8.out.on hb9)
            have HB9 := hid (below_on HB8.out hb9)
            have HT9 : Hid (Rd .u8 w9.heap.size w9 v9 (rec4 ys.length (flat ys))) := by
              have h1 := HFY.out
              have h2 := uv_len_le ys.length (by omega)
              refine hid (Own.rd (xs := 4 :: idb ys) HO9.out ?_)
              unfold idb
              simp only [List.length_cons, List.length_append]
              omega
            clear ho9 hb9 HO9 HE8
            go_wp2_with fail
            refine (zzIDRecord_any _ _ _ _ ids w9 (by omega) UI.out HR9.out HI9.out).mono ?_
            rintro e w' ⟨rfl, hw⟩
            have hw2 := hw.symm
            clear hw
            subst hw2
            go_wp2_with fail
            refine (zzIDTail_any _ _ ids.length _ w9 (by omega) HR9.out).mono ?_
            rintro e w' ⟨t1, rfl, HT1, hw⟩
            have hw2 := hw.symm
            clear hw
            subst hw2
            go_wp2_with fail
            refine (zzIDTail_any _ _ xs.length _ w9 (by omega) HS9.out).mono ?_
            rintro e w' ⟨t2, rfl, HT2, hw⟩
            have hw2 := hw.symm
            clear hw
            subst hw2
            go_wp2_with fail
            refine (zzIDTail_any _ _ ys.length _ w9 (by omega) HT9.out).mono ?_
            rintro e w' ⟨t3, rfl, HT3, hw⟩
            have hw2 := hw.symm
            clear hw
            subst hw2
            go_wp2_with fail
            refine (zzJoinBytes_any _ _ _ _ w9 HT2.out HT3.out (by have := HFX.out; omega) (by have := HFY.out; omega)).mono ?_
            rintro e w10 ⟨v10, rfl, ho10, hb10⟩
            have HQ10 : Hid (Rd .u8 w10.heap.size w10 v10 (flat ids)) := by
              have h := ho10.rd (by have := HFX.out; have := HFY.out; simp only [List.length_append]; omega)
              rw [← HFA.out] at h
              exact h
            have HT10 := hid (HT1.out.on hb10)
            have HB10 := hid (below_on HB9.out hb10)
            clear ho10 hb10
            go_wp2_with fail
            refine (bytesEqual_same _ _ _ _ (flat ids) w10 HT10.out HQ10.out).mono ?_
            rintro e w11 ⟨rfl, nd, hw⟩
            have HB11 : Hid (Below w.heap.size w w11) := by rw [hw]; exact ⟨HB10.out.os, HB10.out.tape, HB10.out.output, HB10.out.size, HB10.out.block⟩
            clear hw
            go_wp2_with fail
            go_ret
            exact ⟨rfl, HB11.out⟩
        | some ay =>
          have hsy : ∀ wx, (binOp .neq 22 (.slice (some ay) ys.length cy) (.slice none 0 0)).run Tryd.prog wx = .ok (.bool true) wx := fun wx => run_neq_slice_nil_any wx 22 29 (some ay) ys.length cy 0 0 Tryd.underlying22
          go_enter Tryd.func3, Tryd.ntmps3
          go_wp2_with (first
              | (go_at_call 7; refine HBY.out.mono ?_; rintro e w' ⟨⟨β, rfl⟩, hw⟩; have hw2 := hw.symm; clear hw; subst hw2; cases β)
              | (at_make; refine wpList_make_full _ rfl (.tmp 30) (.tmp 30) 22 rfl w.heap.size 29 i0 (.int .u64 0) 1 Tryd.underlying22 hinf hz0 hz1 .i64 .i64 _ _ xs.length rfl rfl rfl rfl (by rw [hz2]; omega) (by unfold maxLen; omega) (Nat.le_refl _) ?_; intro w1 hown hgr; obtain ⟨Lx, hLx, hblkx⟩ := own_block hown; have hbelx : Below w.heap.size w w1 := (Below.refl _ _).grown hgr (Nat.le_refl _) (by simp); clear hown hgr)
              | (refine wpList_copy_splice rfl (.tmp 32) (.tmp 33) 22 22 rfl 29 Tryd.underlying22 size29 _ _ _ _ _ _ rfl rfl w.heap.size 0 Lx 29 hblkx (xs.map (Value.int .u64)) MX.out (fun _ => ⟨rfl, ax, rfl, cells_rd (HX0.out.below hbelx)⟩) (by rw [hLx]; exact FX.out) (ints_oneCell _ _) w.heap.size w hbelx (Nat.le_refl _) ?_; intro wa HKx hbx; have HWx := hid hbx; have HLx := hid hLx; clear hblkx hbelx hbx hLx; have HY1 := hid (HY0.out.on HWx.out))
              | (at_make; refine wpList_make_full _ rfl (.tmp 39) (.tmp 39) 22 rfl wa.heap.size 29 i0 (.int .u64 0) 1 Tryd.underlying22 hinf hz0 hz1 .i64 .i64 _ _ ys.length rfl rfl rfl rfl (by rw [hz2]; omega) (by unfold maxLen; omega) (Nat.le_refl _) ?_; intro wb hown hgr; obtain ⟨Ly, hLy, hblky⟩ := own_block hown; have hbely : Below wa.heap.size wa wb := (Below.refl _ _).grown hgr (Nat.le_refl _) (by simp); clear hown hgr)
              | (refine wpList_copy_splice rfl (.tmp 41) (.tmp 42) 22 22 rfl 29 Tryd.underlying22 size29 _ _ _ _ _ _ rfl rfl wa.heap.size 0 Ly 29 hblky (ys.map (Value.int .u64)) MY.out (fun _ => ⟨rfl, ay, rfl, cells_rd (HY1.out.below hbely)⟩) (by rw [hLy]; exact FY.out) (ints_oneCell _ _) wa.heap.size wa hbely (Nat.le_refl _) ?_; intro w2 HKy hby; have HWy := hid hby; have HLy := hid hLy; clear hblky hbely hby hLy))
          · go_ret
            exact ⟨rfl, Below.refl _ _⟩
          · skip
            have HXa : Hid (Rd .u64 wa.heap.size wa (.slice (some ⟨w.heap.size, 0, none⟩) xs.length xs.length) xs) := copied (by omega) HLx.out HKx.out
            have HY : Hid (Rd .u64 w2.heap.size w2 (.slice (some ⟨wa.heap.size, 0, none⟩) ys.length ys.length) ys) := copied (by omega) HLy.out HKy.out
            have HX := hid (HXa.out.on HWy.out)
            have HB := hid (below_on HWx.out HWy.out)
            clear HX0 HY0 HY1 HXa HBY HKx HLx HKy HLy
            refine (zzJoinU64_any _ _ xs ys w2 HX.out HY.out (by omega) (by omega)).mono ?_
            rintro e w3 ⟨v3, rfl, ho3, hb3⟩
            obtain ⟨a3, c3, rfl, hr3, hm3⟩ := ho3.ends (by simp; omega)
            have HI3 := hid hr3
            have HX3 := hid (HX.out.on hb3)
            have HY3 := hid (HY.out.on hb3)
            have HB3 := hid (below_on HB.out hb3)
            clear ho3 hb3 hr3
            obtain ⟨ids, hids⟩ : ∃ ids, ids = xs ++ ys := ⟨_, rfl⟩
            have hil : ids.length = xs.length + ys.length := by rw [hids]; simp
            rw [← hids] at HI3 UI ⊢
            have HFA : Hid (flat ids = flat xs ++ flat ys) := by rw [hids]; exact flat_app xs ys
            have hcx : IntKind.u64.wrap (xs.length : Int) = xs.length := u64_wrap_id _ (by omega) (by omega)
            have hcy : IntKind.u64.wrap (ys.length : Int) = ys.length := u64_wrap_id _ (by omega) (by omega)
            have hci : IntKind.u64.wrap (ids.length : Int) = ids.length := u64_wrap_id _ (by omega) (by omega)
            have hib : (ids.length : Int) ≤ 131072 := by omega
            clear hids hil
            go_wp2_with fail
            refine (newEdit_any _ _ _ w3).mono ?_
            rintro e w4 ⟨p4, rfl, he4, hb4⟩
            have HE4 := hid he4
            have HI4 := hid (HI3.out.on hb4)
            have HX4 := hid (HX3.out.on hb4)
            have HY4 := hid (HY3.out.on hb4)
            have HB4 := hid (below_on HB3.out hb4)
            clear he4 hb4
            go_wp2_with fail
            refine (encodeEdit_any p4 _ ids w4 HE4.out HI4.out UI.out (by omega)).mono ?_
            rintro e w5 ⟨v5, rfl, ho5, hb5⟩
            have HO5 := hid ho5
            have HI5 := hid (HI4.out.on hb5)
            have HX5 := hid (HX4.out.on hb5)
            have HY5 := hid (HY4.out.on hb5)
            have HB5 := hid (below_on HB4.out hb5)
            have HFI := hid (flat_len ids UI.out)
            have HFX := hid (flat_len xs UX.out)
            have HFY := hid (flat_len ys UY.out)
            have HR5 : Hid (Rd .u8 w5.heap.size w5 v5 (rec4 ids.length (flat ids))) := by
              have h1 := HFI.out
              have h2 := uv_len_le ids.length (by omega)
              refine hid (Own.rd (xs := 4 :: idb ids) HO5.out ?_)
              unfold idb
              simp only [List.length_cons, List.length_append]
              omega
            clear ho5 hb5 HO5 HE4
            go_wp2_with fail
            refine (newEdit_any _ _ _ w5).mono ?_
            rintro e w6 ⟨p6, rfl, he6, hb6⟩
            have HE6 := hid he6
            have HR6 := hid (HR5.out.on hb6)
            have HI6 := hid (HI5.out.on hb6)
            have HX6 := hid (HX5.out.on hb6)
            have HY6 := hid (HY5.out.on hb6)
            have HB6 := hid (below_on HB5.out hb6)
            clear he6 hb6
            go_wp2_with fail
            refine (encodeEdit_any p6 _ xs w6 HE6.out HX6.out UX.out (by omega)).mono ?_
            rintro e w7 ⟨v7, rfl, ho7, hb7⟩
            have HO7 := hid ho7
            have HR7 := hid (HR6.out.on hb7)
            have HI7 := hid (HI6.out.on hb7)
            have HY7 := hid (HY6.out.on hb7)
            have HB7 := hid (below_on HB6.out hb7)
            have HS7 : Hid (Rd .u8 w7.heap.size w7 v7 (rec4 xs.length (flat xs))) := by
              have h1 := HFX.out
              have h2 := uv_len_le xs.length (by omega)
              refine hid (Own.rd (xs := 4 :: idb xs) HO7.out ?_)
              unfold idb
              simp only [List.length_cons, List.length_append]
              omega
            clear ho7 hb7 HO7 HE6
            go_wp2_with fail
            refine (newEdit_any _ _ _ w7).mono ?_
            rintro e w8 ⟨p8, rfl, he8, hb8⟩
            have HE8 := hid he8
            have HR8 := hid (HR7.out.on hb8)
            have HS8 := hid (HS7.out.on hb8)
            have HI8 := hid (HI7.out.on hb8)
            have HY8 := hid (HY7.out.on hb8)
            have HB8 := hid (below_on HB7.out hb8)
            clear he8 hb8
            go_wp2_with fail
            refine (encodeEdit_any p8 _ ys w8 HE8.out HY8.out UY.out (by omega)).mono ?_
            rintro e w9 ⟨v9, rfl, ho9, hb9⟩
            have HO9 := hid ho9
            have HR9 := hid (HR8.out.on hb9)
            have HS9 := hid (HS8.out.on hb9)
            have HI9 := hid (HI8.out.on hb9)
            have HB9 := hid (below_on HB8.out hb9)
            have HT9 : Hid (Rd .u8 w9.heap.size w9 v9 (rec4 ys.length (flat ys))) := by
              have h1 := HFY.out
              have h2 := uv_len_le ys.length (by omega)
              refine hid (Own.rd (xs := 4 :: idb ys) HO9.out ?_)
              unfold idb
              simp only [List.length_cons, List.length_append]
              omega
            clear ho9 hb9 HO9 HE8
            go_wp2_with fail
            refine (zzIDRecord_any _ _ _ _ ids w9 (by omega) UI.out HR9.out HI9.out).mono ?_
            rintro e w' ⟨rfl, hw⟩
            have hw2 := hw.symm
            clear hw
            subst hw2
            go_wp2_with fail
            refine (zzIDTail_any _ _ ids.length _ w9 (by omega) HR9.out).mono ?_
            rintro e w' ⟨t1, rfl, HT1, hw⟩
            have hw2 := hw.symm
            clear hw
            subst hw2
            go_wp2_with fail
            refine (zzIDTail_any _ _ xs.length _ w9 (by omega) HS9.out).mono ?_
            rintro e w' ⟨t2, rfl, HT2, hw⟩
            have hw2 := hw.symm
            clear hw
            subst hw2
            go_wp2_with fail
            refine (zzIDTail_any _ _ ys.length _ w9 (by omega) HT9.out).mono ?_
            rintro e w' ⟨t3, rfl, HT3, hw⟩
            have hw2 := hw.symm
            clear hw
            subst hw2
            go_wp2_with fail
            refine (zzJoinBytes_any _ _ _ _ w9 HT2.out HT3.out (by have := HFX.out; omega) (by have := HFY.out; omega)).mono ?_
            rintro e w10 ⟨v10, rfl, ho10, hb10⟩
            have HQ10 : Hid (Rd .u8 w10.heap.size w10 v10 (flat ids)) := by
              have h := ho10.rd (by have := HFX.out; have := HFY.out; simp only [List.length_append]; omega)
              rw [← HFA.out] at h
              exact h
            have HT10 := hid (HT1.out.on hb10)
            have HB10 := hid (below_on HB9.out hb10)
            clear ho10 hb10
            go_wp2_with fail
            refine (bytesEqual_same _ _ _ _ (flat ids) w10 HT10.out HQ10.out).mono ?_
            rintro e w11 ⟨rfl, nd, hw⟩
            have HB11 : Hid (Below w.heap.size w w11) := by rw [hw]; exact ⟨HB10.out.os, HB10.out.tape, HB10.out.output, HB10.out.size, HB10.out.block⟩
            clear hw
            go_wp2_with fail
            go_ret
            exact ⟨rfl, HB11.out⟩
    · go_enter Tryd.func3, Tryd.ntmps3
      go_wp2_with (go_at_call 7; refine HBY.out.mono ?_; rintro e w' ⟨⟨β, rfl⟩, hw⟩; have hw2 := hw.symm; clear hw; subst hw2; cases β)
      all_goals go_ret
      all_goals exact ⟨rfl, Below.refl _ _⟩
  · go_enter Tryd.func3, Tryd.ntmps3
    go_wp2_with (go_at_call 7; refine HBY.out.mono ?_; rintro e w' ⟨⟨β, rfl⟩, hw⟩; have hw2 := hw.symm; clear hw; subst hw2; cases β)
    all_goals go_ret
    all_goals exact ⟨rfl, Below.refl _ _⟩
end Go.Proofs.Qxb6609120aDoor
