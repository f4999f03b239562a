/-
  zzMembers, ZZnewConfigAt: what they make.
-/
import Derived.Test.Qxb6614468aView
import Derived.LoopTactic
import Derived.LoopN
import Derived.RegionTactic
import Derived.Laws.MakeOwn
import Derived.OwnWalk
import Derived.Deep.Draws
import Derived.Lib.SliceRun
namespace Go.Proofs.Qxb6614468a.inc
open Go.RowKit
set_option linter.unusedVariables false

theorem info48 : (Try.prog.info? 48).map (fun i => (i.zero, i.size, i.bytes)) = some (some (.agg #[.string ⟨#[]⟩, .string ⟨#[]⟩]), 2, 32) := by kernel_rfl

/-- The cells of n new members. -/
def made2 (n : Nat) : Array Value := madeCells #[.string ⟨#[]⟩, .string ⟨#[]⟩] (n * 2)

theorem run_make2 (n : Nat) (hn : n ≤ 1048577) (w : World) :
    (Instr.makeSlice 37 (.int .i64 (n : Int)) (.int .i64 (n : Int))).run Try.prog w = .ok (.slice (some ⟨w.heap.size, 0, none⟩) n n) (w.alloc (.cells (made2 n) 48)) := by
  obtain ⟨i0, hi, hz0, hz1, hz2⟩ := info_parts info48
  have h := run_make (P := Try.prog) (w := w) 37 48 i0 _ Try.underlying37 hi hz0 .i64 .i64 (n : Int) (n : Int) (by omega) (by omega) (by rw [hz2]; omega) (by omega)
  rw [hz1] at h
  simpa [made2, Value.cells] using h

theorem made2_size (n : Nat) : (made2 n).size = n * 2 := by simp [made2, madeCells]
theorem made2_str (n i : Nat) (h : i < n * 2) : ∃ s, (made2 n)[i]? = some (.string s) := by
  refine ⟨⟨#[]⟩, ?_⟩
  have h2 : i % 2 = 0 ∨ i % 2 = 1 := by omega
  rcases h2 with h2 | h2 <;> simp [made2, madeCells, h, h2]

/-- ZZnewConfigAt. -/
theorem newcf_any (ix : Int) (vm vo : Value) (rs : Bool) (w : World) (hm : ∃ a n c, vm = .slice a n c) (ho : ∃ a n c, vo = .slice a n c) :
    Calls Try.prog 12 #[.int .u64 ix, vm, vo, .bool rs] w fun e w' => e = .returned (.agg #[.int .u64 ix, vm, vo, .bool rs]) ∧ w' = w.alloc (.cells #[.int .u64 ix, vm, vo, .bool rs] 41) := by
  obtain ⟨am, nm, cm, rfl⟩ := hm
  obtain ⟨ao, no, co, rfl⟩ := ho
  go_enter Try.func12, Try.ntmps12
  go_wp2
  exact bodyPost_ret (v := .agg #[.int .u64 ix, .slice am nm cm, .slice ao no co, .bool rs]) (by simp [results, Try.results12, go_sem]) rfl ⟨rfl, rfl⟩

/-- The first k members have been copied. -/
def Filled (ms : List ByteArray) (k : Nat) (arr : Array Value) : Prop :=
  (∀ i, i < k → arr[i * 2]? = some (.string (idAt ms i))) ∧ (∀ i, i < ms.length * 2 → ∃ s, arr[i]? = some (.string s))

theorem set_made (w : World) (arr : Array Value) (t q i : Nat) (v : Value) : ((w.alloc (.cells arr t)).drewN q).setCell ⟨w.heap.size, i, none⟩ v = (w.alloc (.cells (arr.setIfInBounds i v) t)).drewN q := by
  show ((w.alloc (.cells arr t)).setCell ⟨w.heap.size, i, none⟩ v).drewN q = _
  rw [World.setCell_alloc_at _ _ _ _ _ rfl]

theorem filled_step (ms : List ByteArray) (k : Nat) (arr : Array Value) (s : ByteArray) (hsz : arr.size = ms.length * 2) (hk : k < ms.length) (h : Filled ms k arr) :
    Filled ms (k + 1) ((arr.setIfInBounds (k * 2) (.string (idAt ms k))).setIfInBounds (k * 2 + 1) (.string s)) := by
  refine ⟨fun i hi => ?_, fun i hi => ?_⟩
  · rw [Array.getElem?_setIfInBounds_ne (by omega)]
    by_cases e : i = k
    · subst e
      rw [Array.getElem?_setIfInBounds_self, if_pos (by omega)]
    · rw [Array.getElem?_setIfInBounds_ne (by omega)]
      exact h.1 i (by omega)
  · by_cases e1 : i = k * 2 + 1
    · subst e1
      exact ⟨s, by rw [Array.getElem?_setIfInBounds_self, if_pos (by simp; omega)]⟩
    · rw [Array.getElem?_setIfInBounds_ne (by omega)]
      by_cases e0 : i = k * 2
      · subst e0
        exact ⟨_, by rw [Array.getElem?_setIfInBounds_self, if_pos (by omega)]⟩
      · rw [Array.getElem?_setIfInBounds_ne (by omega)]
        exact h.2 i hi

theorem filled_mems (ms : List ByteArray) (w : World) (arr : Array Value) (q : Nat) (hn : ms.length ≤ 9223372036854775807) (h : Filled ms ms.length arr) :
    MemsFrom w.heap.size ((w.alloc (.cells arr 48)).drewN q) (.slice (some ⟨w.heap.size, 0, none⟩) ms.length ms.length) ms := by
  refine ⟨_, _, rfl, hn, Or.inr ⟨w.heap.size, 0, rfl, Nat.le_refl _, by simp, fun j hj => ⟨?_, ?_⟩⟩⟩
  · rw [World.cell?_drewN, World.cell?_alloc_at (hn := rfl), Nat.zero_add]
    exact h.1 j hj
  · obtain ⟨s, hs⟩ := h.2 (j * 2 + 1) (by omega)
    refine ⟨s, ?_⟩
    rw [World.cell?_drewN, World.cell?_alloc_at (hn := rfl), Nat.zero_add]
    exact hs

theorem below_drewN {B : Nat} {a w : World} (n : Nat) (h : Below B a w) : Below B a (w.drewN n) := h.trans ⟨rfl, rfl, rfl, Nat.le_refl _, fun _ _ => rfl⟩

theorem mems_nil {lo : Nat} {w : World} {ms : List ByteArray} (h : ms.length = 0) : MemsFrom lo w (.slice none 0 0) ms := ⟨none, 0, by rw [h], by omega, Or.inl h⟩

set_option maxHeartbeats 1600000 in
/-- zzMembers. -/
theorem members_any (v : Value) (ms : List ByteArray) (w : World) (hm : MemsAt w v ms) (hl : ms.length ≤ 1048577) :
    Calls Try.prog 13 #[v] w fun e w' => (∃ a n c, e = .returned (.slice a n c) ∧ MemsFrom w.heap.size w' (.slice a n c) ms) ∧ Below w.heap.size w w' := by
  obtain ⟨a, c, rfl, hn, hc⟩ := hm
  have hnil := fun (w : World) => Lib.run_eql_slice_nil (P := Try.prog) w
  have hmk := run_make2 ms.length hl
  rcases hc with hc | ⟨b, o, rfl, hlt, hc⟩
  · have h0 : (ms.length : Int) ≤ 0 := by omega
    have HZ : Hid (ms.length = 0) := hc
    clear hc
    cases a with
    | none =>
      go_enter Try.func13, Try.ntmps13
      go_wp2
      go_ret
      exact ⟨⟨_, _, _, rfl, mems_nil HZ.out⟩, Below.refl _ _⟩
    | some ad =>
      go_enter Try.func13, Try.ntmps13
      go_wp2
      refine wp_loop_rounds 1 ?_
      rw [rounds_succ]
      go_wp2
      go_ret
      exact ⟨⟨_, _, _, rfl, _, _, rfl, hn, Or.inl HZ.out⟩, belowNew (Below.refl _ _) _⟩
  · have HC : Hid (∀ j, j < ms.length → w.cell? ⟨b, o + j * 2, none⟩ = some (.string (idAt ms j)) ∧ ∃ s, w.cell? ⟨b, o + j * 2 + 1, none⟩ = some (.string s)) := hc
    clear hc
    go_enter Try.func13, Try.ntmps13
    go_wp2
    go_loopw [4] (fun j wr => ∃ (k q : Nat) (arr : Array Value), k ≤ ms.length ∧ j = .int .i64 k ∧ wr = (w.alloc (.cells arr 48)).drewN q ∧ arr.size = ms.length * 2 ∧ Hid (Filled ms k arr)) (fun j _ => ms.length - (intOf j).toNat)
    case atStart => exact ⟨0, 0, made2 ms.length, Nat.zero_le _, rfl, rfl, made2_size _, fun i hi => absurd hi (Nat.not_lt_zero _), fun i hi => made2_str _ i hi⟩
    case round =>
      obtain ⟨k, q, arr, hk, rfl, rfl, hsz, HF⟩ := hrel
      by_cases hlk : k < ms.length
      · obtain ⟨c1, s, c2⟩ := HC.out k hlk
        obtain ⟨s0, e0⟩ := HF.out.2 (k * 2) (by omega)
        obtain ⟨s1, e1⟩ := HF.out.2 (k * 2 + 1) (by omega)
        clear hmk hnil
        go_wp2
        go_region
        go_wp2
        go_roundw
        case rel =>
          refine ⟨k + 1, q + 1, _, by omega, by go_num, by rw [set_made, set_made], by simp [hsz], filled_step ms k arr s hsz hlk HF.out⟩
        case measure => simp [intOf]; omega
      · obtain rfl : k = ms.length := by omega
        go_wp2
        go_ret
        exact ⟨⟨_, _, _, rfl, filled_mems ms w arr q hn HF.out⟩, below_drewN q (belowNew (Below.refl _ _) _)⟩

end Go.Proofs.Qxb6614468a.inc
