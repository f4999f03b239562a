/-
  A row of configurations that the call itself makes, filled one by one.
-/
import Derived.Test.Qxb6614468aMade
import Derived.Deep.OwnRows
namespace Go.Proofs.Qxb6614468a.inc
open Go.RowKit Go.Deep
set_option linter.unusedVariables false

theorem info41 : (Try.prog.info? 41).map (fun i => (i.zero, i.size, i.bytes)) = some (some (.agg #[.int .u64 0, .slice none 0 0, .slice none 0 0, .bool false]), 4, 64) := by kernel_rfl
theorem info30 : (Try.prog.info? 30).map (fun i => (i.zero, i.size, i.bytes)) = some (some (.agg #[.int .u64 0, .slice none 0 0, .slice none 0 0, .bool false]), 4, 64) := by kernel_rfl

/-- The cells of n new configurations. -/
def made4 (n : Nat) : Array Value := madeCells #[.int .u64 0, .slice none 0 0, .slice none 0 0, .bool false] (n * 4)
theorem made4_size (n : Nat) : (made4 n).size = n * 4 := by simp [made4, madeCells]

theorem run_make41 (n : Nat) (hn : n ≤ 1048577) (w : World) :
    (Instr.makeSlice 32 (.int .i64 (n : Int)) (.int .i64 (n : Int))).run Try.prog w = .ok (.slice (some ⟨w.heap.size, 0, none⟩) n n) (w.alloc (.cells (made4 n) 41)) := by
  obtain ⟨i0, hi, hz0, hz1, hz2⟩ := info_parts info41
  have h := run_make (P := Try.prog) (w := w) 32 41 i0 _ Try.underlying32 hi hz0 .i64 .i64 (n : Int) (n : Int) (by omega) (by omega) (by rw [hz2]; omega) (by omega)
  rw [hz1] at h
  simpa [made4, Value.cells] using h
theorem run_make30 (n : Nat) (hn : n ≤ 1048577) (w : World) :
    (Instr.makeSlice 22 (.int .i64 (n : Int)) (.int .i64 (n : Int))).run Try.prog w = .ok (.slice (some ⟨w.heap.size, 0, none⟩) n n) (w.alloc (.cells (made4 n) 30)) := by
  obtain ⟨i0, hi, hz0, hz1, hz2⟩ := info_parts info30
  have h := run_make (P := Try.prog) (w := w) 22 30 i0 _ Try.underlying22 hi hz0 .i64 .i64 (n : Int) (n : Int) (by omega) (by omega) (by rw [hz2]; omega) (by omega)
  rw [hz1] at h
  simpa [made4, Value.cells] using h

theorem made4_row (w : World) (n t : Nat) : ∃ f, (w.alloc (.cells (made4 n) t)).rowIs w.heap.size t (n * 4) f := by
  refine ⟨fun i => (made4 n).getD i (.bool false), ?_⟩
  have h := World.rowIs_alloc w (made4 n) t (fun i => (made4 n).getD i (.bool false)) (fun i hi => by simp [Array.getD, hi])
  rwa [made4_size] at h

/-- The first k configurations of the row in block g have been written. -/
def Filled4 (g : Nat) (cs : List (List ByteArray × List ByteArray)) (k : Nat) (f : Nat → Value) (w : World) : Prop :=
  ∀ i, i < k → ∃ (ix : Int) (vm vo : Value) (rs : Bool), f (i * 4) = .int .u64 ix ∧ f (i * 4 + 1) = vm ∧ f (i * 4 + 2) = vo ∧ f (i * 4 + 3) = .bool rs ∧
    MemsFrom (g + 1) w vm (cfAt cs i).1 ∧ MemsFrom (g + 1) w vo (cfAt cs i).2

theorem Filled4.below {g k : Nat} {cs : List (List ByteArray × List ByteArray)} {f : Nat → Value} {w w' : World} (h : Filled4 g cs k f w) (hb : Below w.heap.size w w') : Filled4 g cs k f w' := by
  intro i hi
  obtain ⟨ix, vm, vo, rs, h0, h1, h2, h3, hm, ho⟩ := h i hi
  exact ⟨ix, vm, vo, rs, h0, h1, h2, h3, hm.below hb, ho.below hb⟩

theorem mems_set {g i : Nat} {w : World} {v u : Value} {ms : List ByteArray} (h : MemsFrom (g + 1) w v ms) : MemsFrom (g + 1) (w.setCell ⟨g, i, none⟩ u) v ms :=
  h.kept (Nat.le_refl _) (by simp) fun b o hlo _ => World.cell?_setCell_other _ _ _ _ (by
    intro e
    have := congrArg Addr.block e
    simp at this
    omega)

theorem conf_step {g t n k : Nat} {cs : List (List ByteArray × List ByteArray)} {f : Nat → Value} {w : World} {ix : Int} {vm vo : Value} {rs : Bool}
    (hr : w.rowIs g t (n * 4) f) (hf : Filled4 g cs k f w) (hm : MemsFrom (g + 1) w vm (cfAt cs k).1) (ho : MemsFrom (g + 1) w vo (cfAt cs k).2) :
    ∃ f', ((((w.setCell ⟨g, k * 4, none⟩ (.int .u64 ix)).setCell ⟨g, k * 4 + 1, none⟩ vm).setCell ⟨g, k * 4 + 2, none⟩ vo).setCell ⟨g, k * 4 + 3, none⟩ (.bool rs)).rowIs g t (n * 4) f' ∧
      Filled4 g cs (k + 1) f' ((((w.setCell ⟨g, k * 4, none⟩ (.int .u64 ix)).setCell ⟨g, k * 4 + 1, none⟩ vm).setCell ⟨g, k * 4 + 2, none⟩ vo).setCell ⟨g, k * 4 + 3, none⟩ (.bool rs)) := by
  refine ⟨_, (((hr.set _ _).set _ _).set _ _).set _ _, fun i hi => ?_⟩
  by_cases e : i = k
  · subst e
    refine ⟨ix, vm, vo, rs, ?_, ?_, ?_, ?_, mems_set (mems_set (mems_set (mems_set hm))), mems_set (mems_set (mems_set (mems_set ho)))⟩
    · simp
    · simp
    · simp
    · simp
  · obtain ⟨ix', vm', vo', rs', h0, h1, h2, h3, hm', ho'⟩ := hf i (by omega)
    refine ⟨ix', vm', vo', rs', ?_, ?_, ?_, ?_, mems_set (mems_set (mems_set (mems_set hm'))), mems_set (mems_set (mems_set (mems_set ho')))⟩
    · simp only [if_neg (show ¬ i * 4 = k * 4 + 3 by omega), if_neg (show ¬ i * 4 = k * 4 + 2 by omega), if_neg (show ¬ i * 4 = k * 4 + 1 by omega), if_neg (show ¬ i * 4 = k * 4 by omega)]; exact h0
    · simp only [if_neg (show ¬ i * 4 + 1 = k * 4 + 3 by omega), if_neg (show ¬ i * 4 + 1 = k * 4 + 2 by omega), if_neg (show ¬ i * 4 + 1 = k * 4 + 1 by omega), if_neg (show ¬ i * 4 + 1 = k * 4 by omega)]; exact h1
    · simp only [if_neg (show ¬ i * 4 + 2 = k * 4 + 3 by omega), if_neg (show ¬ i * 4 + 2 = k * 4 + 2 by omega), if_neg (show ¬ i * 4 + 2 = k * 4 + 1 by omega), if_neg (show ¬ i * 4 + 2 = k * 4 by omega)]; exact h2
    · simp only [if_neg (show ¬ i * 4 + 3 = k * 4 + 3 by omega), if_neg (show ¬ i * 4 + 3 = k * 4 + 2 by omega), if_neg (show ¬ i * 4 + 3 = k * 4 + 1 by omega), if_neg (show ¬ i * 4 + 3 = k * 4 by omega)]; exact h3

theorem filled4_confs {g t c : Nat} {cs : List (List ByteArray × List ByteArray)} {f : Nat → Value} {w : World} (hn : cs.length ≤ 9223372036854775807) (hr : w.rowIs g t (cs.length * 4) f) (hf : Filled4 g cs cs.length f w) :
    ConfsAt w (.slice (some ⟨g, 0, none⟩) cs.length c) cs := by
  refine ⟨_, _, rfl, hn, Or.inr ⟨g, 0, rfl, hr.lt, fun i hi => ?_⟩⟩
  obtain ⟨ix, vm, vo, rs, h0, h1, h2, h3, hm, ho⟩ := hf i hi
  refine ⟨ix, vm, vo, rs, ?_, ?_, ?_, ?_, hm.at, ho.at⟩
  · rw [Nat.zero_add, hr.cell (by omega), h0]
  · rw [Nat.zero_add, hr.cell (by omega), h1]
  · rw [Nat.zero_add, hr.cell (by omega), h2]
  · rw [Nat.zero_add, hr.cell (by omega), h3]

end Go.Proofs.Qxb6614468a.inc
