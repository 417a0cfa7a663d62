import Derived.Test.Qxb6609148aRows
import Derived.WalkKit
import Derived.WalkSpells
import Derived.WalkLawsBesides
import Derived.Deep.QuietTactic
import Derived.BigQuiet
import Derived.Laws.CopyOwn
import Derived.Laws.AppendOwnNone
import Derived.ArgAppend
import Derived.Lib.SmallJoins
namespace Go.Proofs.Qxb6609148a
open Go.RowKit Go.Joins

theorem hid {p : Prop} (h : p) : Hid p := h
def IsB (e : Ending) : Prop := ∃ b, e = .returned (.bool b)
theorem below_on {w w' w2 : World} (h : Below w.heap.size w w') (hb : Below w'.heap.size w' w2) : Below w.heap.size w w2 := h.trans (hb.mono h.size)

/-- the slice value v reads, in the world w, as the values xs; its cells lie in blocks below B -/
def Rv (B : Nat) (w : World) (v : Value) (xs : List Value) : Prop :=
  ∃ ao cap, v = .slice ao xs.length cap ∧ xs.length ≤ cap ∧ (xs.length ≤ 140737488355328 ∧ cap ≤ 9223372036854775807) ∧ (ao = none → cap = 0) ∧
    ∀ k, k < xs.length → ∃ b off, ao = some ⟨b, off, none⟩ ∧ b < B ∧ w.cell? ⟨b, off + k, none⟩ = some (xs.getD k (.bool false))

theorem Rv.mono {B B' : Nat} {w : World} {v : Value} {xs : List Value} (h : Rv B w v xs) (hB : B ≤ B') : Rv B' w v xs := by
  obtain ⟨ao, cap, h1, h2, h3, h4, h5⟩ := h
  refine ⟨ao, cap, h1, h2, h3, h4, fun k hk => ?_⟩
  obtain ⟨b, off, e, hb, hc⟩ := h5 k hk
  exact ⟨b, off, e, by omega, hc⟩
theorem Rv.below {B : Nat} {w w' : World} {v : Value} {xs : List Value} (h : Rv B w v xs) (hb : Below B w w') : Rv B w' v xs := by
  obtain ⟨ao, cap, h1, h2, h3, h4, h5⟩ := h
  refine ⟨ao, cap, h1, h2, h3, h4, fun k hk => ?_⟩
  obtain ⟨b, off, e, hlt, hc⟩ := h5 k hk
  exact ⟨b, off, e, hlt, (hb.cell (p := ⟨b, off + k, none⟩) hlt).trans hc⟩
theorem Rv.on {w w' : World} {v : Value} {xs : List Value} (h : Rv w.heap.size w v xs) (hb : Below w.heap.size w w') : Rv w'.heap.size w' v xs := (h.below hb).mono hb.size

/-- a slice of strings -/
def Rs (B : Nat) (w : World) (v : Value) (ss : List ByteArray) : Prop := Rv B w v (ss.map Value.string)
/-- every string is within the reach -/
def Sz (ss : List ByteArray) : Prop := ∀ k, k < ss.length → (ss.getD k .empty).size ≤ 140737488355328
/-- the bytes of the strings -/
def tot (ss : List ByteArray) : Nat := (ss.map ByteArray.size).sum

theorem Rs.parts {B : Nat} {w : World} {v : Value} {ss : List ByteArray} (h : Rs B w v ss) :
    ∃ ao cap, v = .slice ao ss.length cap ∧ ss.length ≤ cap ∧ (ss.length ≤ 140737488355328 ∧ cap ≤ 9223372036854775807) ∧ (ao = none → cap = 0) ∧
      ∀ k, k < ss.length → ∃ b off, ao = some ⟨b, off, none⟩ ∧ b < B ∧ w.cell? ⟨b, off + k, none⟩ = some (.string (ss.getD k .empty)) := by
  obtain ⟨ao, cap, h1, h2, h3, h4, h5⟩ := h
  rw [List.length_map] at h1 h2 h3
  refine ⟨ao, cap, h1, h2, h3, h4, fun k hk => ?_⟩
  obtain ⟨b, off, e, hb, hc⟩ := h5 k (by rw [List.length_map]; exact hk)
  refine ⟨b, off, e, hb, hc.trans ?_⟩
  rw [List.getD_eq_getElem?_getD, List.getD_eq_getElem?_getD, List.getElem?_map, List.getElem?_eq_getElem hk]
  rfl

theorem tot_take (ss : List ByteArray) (k : Nat) (h : k < ss.length) : tot (ss.take (k + 1)) = tot (ss.take k) + (ss.getD k .empty).size := by
  have : ss.take (k + 1) = ss.take k ++ [ss.getD k .empty] := by
    rw [List.take_succ_eq_append_getElem h, List.getD_eq_getElem?_getD, List.getElem?_eq_getElem h]; rfl
  rw [this]; unfold tot; simp
theorem tot_app (a b : List ByteArray) : tot (a ++ b) = tot a + tot b := by unfold tot; simp

/-- stringsOver's answer: where it is false, the strings are within the bound -/
def SoE (ss : List ByteArray) (e : Ending) : Prop := ∃ b, e = .returned (.bool b) ∧ (b = false → 16 * ss.length + tot ss ≤ 1048576)

theorem stringsOver_any (B : Nat) (v : Value) (ss : List ByteArray) (w : World) (h : Rs B w v ss) (hz : Sz ss) :
    Calls Try.prog 7 #[v, .int .i64 1048576] w fun e w' => SoE ss e ∧ w' = w := by
  obtain ⟨ao, cap, rfl, hl, hm, -, hc⟩ := h.parts
  have HC := hid hc
  have HZ := hid hz
  clear hc hz h
  by_cases hbig : (ss.length : Int) ≤ 65536
  · go_enter Try.func7, Try.ntmps7
    go_wp2
    go_loop [5, 6] (fun t i => ∃ k T : Nat, k ≤ ss.length ∧ i = .int .i64 k ∧ t = .int .i64 T ∧ T ≤ 1048576 ∧ Hid (T = 16 * ss.length + tot (ss.take k))) (fun _ i => ss.length - (intOf i).toNat)
    case atStart => exact ⟨0, 16 * ss.length, Nat.zero_le _, rfl, by go_num, by omega, by show _ = _; simp [tot]⟩
    case round =>
      obtain ⟨k, T, hk, rfl, rfl, hT, HT⟩ := hrel
      by_cases hlt : (k : Int) < ss.length
      · obtain ⟨b, off, rfl, hlb, hx⟩ := HC.out k (by omega)
        have hs := HZ.out k (by omega)
        have ht := tot_take ss k (by omega)
        have HT2 : Hid (T + (ss.getD k .empty).size = 16 * ss.length + tot (ss.take (k + 1))) := by
          show _ = _
          rw [ht, HT.out]; omega
        obtain ⟨s, hse⟩ : ∃ s, s = ss.getD k .empty := ⟨_, rfl⟩
        rw [← hse] at hx hs HT2
        clear ht hse
        go_wp2
        · go_ret
          exact ⟨⟨_, rfl, fun h => absurd h (by decide)⟩, rfl⟩
        · refine ⟨⟨k + 1, T + s.size, by omega, by go_num, by go_num, by omega, HT2⟩, ?_⟩
          simp [intOf]; omega
      · have e : k = ss.length := by omega
        have HT3 : Hid (16 * ss.length + tot ss ≤ 1048576) := by
          have := HT.out
          rw [e, List.take_length] at this
          show _ ≤ _
          omega
        go_wp2
        go_ret
        exact ⟨⟨_, rfl, fun _ => HT3.out⟩, rfl⟩
    all_goals go_ret
    all_goals exact ⟨⟨_, rfl, fun h => absurd h (by decide)⟩, rfl⟩
  · go_enter Try.func7, Try.ntmps7
    go_wp2
    go_ret
    exact ⟨⟨_, rfl, fun h => absurd h (by decide)⟩, rfl⟩

theorem zzBytesE_any (B : Nat) (v : Value) (ss : List ByteArray) (x : Int) (w : World) (h : Rs B w v ss) (hz : Sz ss) :
    Calls Try.prog 19 #[v, .int .i64 x] w fun e w' => IsB e ∧ w' = w := by
  obtain ⟨ao, cap, rfl, hl, hm, -, hc⟩ := h.parts
  have HC := hid hc
  have HZ := hid hz
  clear hc hz h
  go_enter Try.func19, Try.ntmps19
  go_wp2
  all_goals try (go_ret; exact ⟨⟨_, rfl⟩, rfl⟩)
  go_loop [5, 6] (fun t i => ∃ k T : Nat, k ≤ ss.length ∧ i = .int .i64 k ∧ t = .int .i64 T ∧ T ≤ 1048576) (fun _ i => ss.length - (intOf i).toNat)
  case atStart => exact ⟨0, ss.length, Nat.zero_le _, rfl, by go_num, by omega⟩
  case round =>
    obtain ⟨k, T, hk, rfl, rfl, hT⟩ := hrel
    by_cases hlt : (k : Int) < ss.length
    · obtain ⟨b, off, rfl, hlb, hx⟩ := HC.out k (by omega)
      have hs := HZ.out k (by omega)
      obtain ⟨s, hse⟩ : ∃ s, s = ss.getD k .empty := ⟨_, rfl⟩
      rw [← hse] at hx hs
      clear hse
      go_wp2
      all_goals try (go_ret; exact ⟨⟨_, rfl⟩, rfl⟩)
      refine ⟨⟨k + 1, T + s.size, by omega, by go_num, by go_num, by omega⟩, ?_⟩
      simp [intOf]; omega
    · go_wp2
      go_ret
      exact ⟨⟨_, rfl⟩, rfl⟩
end Go.Proofs.Qxb6609148a
