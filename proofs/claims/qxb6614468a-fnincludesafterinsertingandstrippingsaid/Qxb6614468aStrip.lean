/-
  zzStrip.
-/
import Derived.Test.Qxb6614468aConfs
import Derived.Deep.AppendLies
import Derived.Laws.OwnMore
namespace Go.Proofs.Qxb6614468a.inc
open Go.RowKit Go.Deep
set_option linter.unusedVariables false

/-- The members without the id. -/
def strip (ms : List ByteArray) (id : ByteArray) : List ByteArray := ms.filter fun m => !(m.toList == id.toList)

theorem strip_le (ms : List ByteArray) (id : ByteArray) : (strip ms id).length ≤ ms.length := List.length_filter_le _ _
theorem take_snoc (ms : List ByteArray) (k : Nat) (h : k < ms.length) : ms.take (k + 1) = ms.take k ++ [idAt ms k] := by
  rw [List.take_succ_eq_append_getElem h, idAt, List.getD_eq_getElem?_getD, List.getElem?_eq_getElem h]
  rfl
theorem strip_drop (ms : List ByteArray) (id : ByteArray) (k : Nat) (h : k < ms.length) (he : ((idAt ms k).toList == id.toList) = true) : strip (ms.take (k + 1)) id = strip (ms.take k) id := by
  rw [take_snoc ms k h, strip, strip, List.filter_append]
  simp [he]
theorem strip_keep (ms : List ByteArray) (id : ByteArray) (k : Nat) (h : k < ms.length) (he : ((idAt ms k).toList == id.toList) = false) : strip (ms.take (k + 1)) id = strip (ms.take k) id ++ [idAt ms k] := by
  rw [take_snoc ms k h, strip, strip, List.filter_append]
  simp [he]

/-- The cells of a row of members, by their ids. -/
def Pairs (xs : List Value) (ids : List ByteArray) : Prop :=
  ∀ j, j < ids.length → xs[j * 2]? = some (.string (idAt ids j)) ∧ ∃ s, xs[j * 2 + 1]? = some (.string s)

theorem pairs_snoc {xs : List Value} {ids : List ByteArray} {i s : ByteArray} (hl : xs.length = ids.length * 2) (h : Pairs xs ids) : Pairs (xs ++ [.string i, .string s]) (ids ++ [i]) := by
  intro j hj
  by_cases e : j = ids.length
  · subst e
    refine ⟨?_, s, ?_⟩
    · rw [List.getElem?_append_right (by omega), idAt, List.getD_eq_getElem?_getD, List.getElem?_append_right (Nat.le_refl _), Nat.sub_self, hl, Nat.sub_self]
      rfl
    · rw [List.getElem?_append_right (by omega), hl, show ids.length * 2 + 1 - ids.length * 2 = 1 from by omega]
      rfl
  · have hj' : j < ids.length := by simp at hj; omega
    obtain ⟨h1, s', h2⟩ := h j hj'
    refine ⟨?_, s', ?_⟩
    · rw [List.getElem?_append_left (by omega), h1, idAt, idAt, List.getD_eq_getElem?_getD, List.getD_eq_getElem?_getD, List.getElem?_append_left hj']
    · rw [List.getElem?_append_left (by omega), h2]

theorem owns_mems {base : Nat} {w : World} {v : Value} {ids : List ByteArray} {xs : List Value} (hn : ids.length ≤ 9223372036854775807) (ho : w.ownsRow base 27 2 v ids.length xs) (hp : Pairs xs ids) :
    ∃ a n c, v = .slice a n c ∧ MemsFrom base w (.slice a n c) ids := by
  by_cases h0 : ids.length = 0
  · rcases ho.2 with ⟨hv, _⟩ | ⟨g, cap, cur, hv, _⟩
    · exact ⟨none, 0, 0, hv, mems_nil h0⟩
    · exact ⟨_, _, _, hv, _, _, rfl, hn, Or.inl h0⟩
  · obtain ⟨g, cap, rfl, hb, hlt⟩ := ho.form (by omega)
    refine ⟨_, _, _, rfl, _, _, rfl, hn, Or.inr ⟨g, 0, rfl, hb, hlt, fun j hj => ?_⟩⟩
    obtain ⟨h1, s, h2⟩ := hp j hj
    refine ⟨?_, s, ?_⟩
    · rw [Nat.zero_add, ho.cellAt _ (by omega), h1]
    · rw [Nat.zero_add, ho.cellAt _ (by omega), h2]

theorem info27 : (Try.prog.info? 27).map (fun i => (i.zero, i.size, i.bytes)) = some (some (.agg #[.string ⟨#[]⟩, .string ⟨#[]⟩]), 2, 32) := by kernel_rfl

set_option maxHeartbeats 1600000 in
/-- zzStrip. -/
theorem strip_any (v : Value) (ms : List ByteArray) (id : ByteArray) (w : World) (hm : MemsAt w v ms) (hl : ms.length ≤ 1048577) :
    Calls Try.prog 14 #[v, .string id] w fun e w' => (∃ a n c, e = .returned (.slice a n c) ∧ MemsFrom w.heap.size w' (.slice a n c) (strip ms id)) ∧ Below w.heap.size w w' := by
  obtain ⟨i0, hi, hz0, hz1, hz2⟩ := info_parts info27
  obtain ⟨a, c, rfl, hn, hc⟩ := hm
  rcases hc with hc | ⟨b, o, rfl, hlt, hc⟩
  · have h0 : (ms.length : Int) ≤ 0 := by omega
    have HZ : Hid (ms.length = 0) := hc
    clear hc
    go_enter Try.func14, Try.ntmps14
    go_wp2
    refine wp_loop_rounds 1 ?_
    rw [rounds_succ]
    go_wp2
    go_ret
    exact ⟨⟨_, _, _, rfl, mems_nil (by have := strip_le ms id; have := HZ.out; omega)⟩, Below.refl _ _⟩
  · have HC : Hid (∀ j, j < ms.length → w.cell? ⟨b, o + j * 2, none⟩ = some (.string (idAt ms j)) ∧ ∃ s, w.cell? ⟨b, o + j * 2 + 1, none⟩ = some (.string s)) := hc
    clear hc
    go_enter Try.func14, Try.ntmps14
    go_wp2
    go_loopw [5, 6] (fun out j wr => ∃ (k : Nat) (xs : List Value), k ≤ ms.length ∧ j = .int .i64 k ∧ Below w.heap.size w wr ∧ Hid (wr.ownsRow w.heap.size 27 2 out (strip (ms.take k) id).length xs) ∧ Hid (Pairs xs (strip (ms.take k) id))) (fun _ j _ => ms.length - (intOf j).toNat)
    case atStart => exact ⟨0, [], Nat.zero_le _, rfl, Below.refl _ _, World.ownsRow_nil _ _ _ _, fun j hj => absurd hj (Nat.not_lt_zero _)⟩
    case round =>
      obtain ⟨k, xs, hk, rfl, hbel, HO, HP⟩ := hrel
      by_cases hlk : k < ms.length
      · obtain ⟨c1, s, c2⟩ := HC.out k hlk
        have d1 := (hbel.cell (p := ⟨b, o + k * 2, none⟩) hlt).trans c1
        have d2 := (hbel.cell (p := ⟨b, o + k * 2 + 1, none⟩) hlt).trans c2
        clear c1 c2
        cases he : ((idAt ms k).toList == id.toList) with
        | true =>
          go_wp2
          go_roundw
          case rel => exact ⟨k + 1, xs, by omega, by go_num, hbel, by show World.ownsRow _ _ _ _ _ _ _; rw [strip_drop ms id k hlk he]; exact HO.out, by show Pairs _ _; rw [strip_drop ms id k hlk he]; exact HP.out⟩
          case measure => simp [intOf]; omega
        | false =>
          have hle : (strip (ms.take k) id).length ≤ 1048577 := Nat.le_trans (strip_le _ _) (Nat.le_trans (List.length_take_le _ _) (by omega))
          have h63 : (strip (ms.take k) id).length + 1 ≤ maxLen := by unfold maxLen; omega
          have hby : ((strip (ms.take k) id).length + 1) * 32 ≤ 140737488355328 := by omega
          have hsz := hbel.size
          go_wp2_with (at_builtin; refine wpList_append_lies _ (by rfl) (.tmp 20) (.tmp 25) 28 (by rfl) w.heap.size 27 i0 _ 2 32 Try.underlying28 hi hz0 hz1 hz2 rfl (by decide) u5 (strip (ms.take k) id).length xs (by rfl) (HO.out.alloc _) ⟨wr.heap.size, 0, none⟩ 1 1 [.string (idAt ms k), .string s] (by rfl) (by rfl) (World.news_of_block (cs := #[.string (idAt ms k), .string s]) (t := 27) (fr := (0, 0)) (heap_alloc_new wr _)) (by simp [Value.oneCell']) (by decide) h63 hby (by simp; omega) (wr.heap.size + 1) (by simp) ?_; intro g cap w1 hown1 hgrow hat hlt2)
          go_roundw
          case rel =>
            have hlen : (strip (ms.take (k + 1)) id).length = (strip (ms.take k) id).length + 1 := by rw [strip_keep ms id k hlk he]; simp
            refine ⟨k + 1, xs ++ [.string (idAt ms k), .string s], by omega, by go_num, Below.grown (belowNew hbel _) hgrow (by simp; omega) (fun r hr => (HO.out.lt r hr).1), ?_, ?_⟩
            · show World.ownsRow _ _ _ _ _ _ _
              rw [hlen]
              exact hown1
            · show Pairs _ _
              rw [strip_keep ms id k hlk he]
              exact pairs_snoc HO.out.1 HP.out
          case measure => simp [intOf]; omega
      · obtain rfl : k = ms.length := by omega
        have ho := HO.out
        have hp := HP.out
        rw [List.take_length] at ho hp
        obtain ⟨a', n', c', hv, hm'⟩ := owns_mems (by have := strip_le ms id; omega) ho hp
        have HV : Hid (u5 = .slice a' n' c') := hv
        have HM : Hid (MemsFrom w.heap.size wr (.slice a' n' c') (strip ms id)) := hm'
        clear ho hp hv hm'
        rw [HV.out]
        go_wp2
        go_ret
        exact ⟨⟨_, _, _, rfl, HM.out⟩, hbel⟩

end Go.Proofs.Qxb6614468a.inc
