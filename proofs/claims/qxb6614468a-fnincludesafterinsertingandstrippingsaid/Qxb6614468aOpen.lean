/-
  The argument, opened: from what is read as data to how it lies in memory.
-/
import Derived.Test.Qxb6614468aView
import Derived.ProofKit
import Derived.Deep.SlicePairs
namespace Go.Proofs.Qxb6614468a.inc
open Go.RowKit Go.Deep Go.WideShapes Go.ChangeShapes
set_option linter.unusedVariables false

theorem cells9 : Try.prog.cellsOf 9 = 1 := by kernel_rfl
theorem cells23 : Try.prog.cellsOf 23 = 1 := by kernel_rfl
theorem cells28 : Try.prog.cellsOf 28 = 1 := by kernel_rfl
theorem cells4 : Try.prog.cellsOf 4 = 1 := by kernel_rfl
theorem cells27 : Try.prog.cellsOf 27 = 2 := by kernel_rfl
theorem cells30 : Try.prog.cellsOf 30 = 4 := by kernel_rfl

section
variable {H : Type} {enc : TypeId × Value → H} {w : World} {base : Nat} {spare : Nat → Bool} {held : Bool}

theorem idAt_map (len j : Nat) (I : Nat → ByteArray) (h : j < len) : idAt ((List.range len).map I) j = I j := by
  simp [idAt, List.getD_eq_getElem?_getD, h]
theorem cfAt_map (len j : Nat) (I : Nat → List ByteArray × List ByteArray) (h : j < len) : cfAt ((List.range len).map I) j = I j := by
  simp [cfAt, List.getD_eq_getElem?_getD, h]

theorem open_mems {fuel : Nat} {cs : List Value} {x : DataW H × List MemPlace} (h : DataW.trod enc Try.prog w base spare held fuel 28 cs = some x) : ∃ v ids, cs = [v] ∧ MemsAt w v ids := by
  rcases open_slice_pairs Try.underlying28 Try.underlying27 cells27 rfl rfl cells9 cells9 h with ⟨rfl, _⟩ | ⟨a, len, cap, m, n, V0, V1, D0, D1, P0, P1, rfl, hb, hl, hm, hmm, _, hx⟩
  · exact ⟨_, [], rfl, none, 0, rfl, by simp, Or.inl rfl⟩
  · have hlm : len ≤ m := by rw [hmm]; split <;> omega
    have hs : ∀ i, i < len → ∃ q : ByteArray × ByteArray, V0 i = .string q.1 ∧ V1 i = .string q.2 := by
      intro i hi
      obtain ⟨_, _, t0, t1⟩ := hx i (by omega)
      obtain ⟨s0, e0, _⟩ := DataW.trod_string Try.underlying9 t0
      obtain ⟨s1, e1, _⟩ := DataW.trod_string Try.underlying9 t1
      exact ⟨(s0, s1), by simpa using e0, by simpa using e1⟩
    obtain ⟨q, hq⟩ := choose_lt hs
    have hlen : ((List.range len).map fun i => (q i).1).length = len := by simp
    refine ⟨_, (List.range len).map fun i => (q i).1, rfl, some a, cap, by rw [hlen], by rw [hlen]; unfold maxLen at hm; omega, ?_⟩
    by_cases h0 : len = 0
    · exact Or.inl (by rw [hlen]; exact h0)
    · right
      have c0 := (hx 0 (by omega)).1
      obtain ⟨b, o, spot⟩ := a
      have hspot : spot = none := by simpa [Addr.add] using World.cell?_spot c0
      subst hspot
      refine ⟨b, o, rfl, by simpa [Addr.add] using World.block_lt_of_cell? w _ c0, fun j hj => ?_⟩
      rw [hlen] at hj
      obtain ⟨d0, d1, _, _⟩ := hx j (by omega)
      obtain ⟨e0, e1⟩ := hq j hj
      rw [add_plain] at d0 d1
      refine ⟨?_, (q j).2, ?_⟩
      · rw [d0, e0, idAt_map _ _ _ hj]
      · rw [Nat.add_assoc, d1, e1]

theorem open_confs {fuel : Nat} {cs : List Value} {x : DataW H × List MemPlace} (h : DataW.trod enc Try.prog w base spare held fuel 22 cs = some x) : ∃ v cfs, cs = [v] ∧ ConfsAt w v cfs := by
  rcases open_slice Try.underlying22 h with ⟨rfl, _⟩ | ⟨a, len, cap, m, n, D, Pl, rfl, hb, hl, hm, hmm, _, hx⟩
  · exact ⟨_, [], rfl, none, 0, rfl, by simp, Or.inl rfl⟩
  · have hlm : len ≤ m := by rw [hmm]; split <;> omega
    have hs : ∀ i, i < len → ∃ q : (List ByteArray × List ByteArray), ∃ (ix : Int) (vm vo : Value) (rs : Bool), w.cell? (a.add (i * 4)) = some (.int .u64 ix) ∧ w.cell? (a.add (i * 4 + 1)) = some vm ∧ w.cell? (a.add (i * 4 + 2)) = some vo ∧
        w.cell? (a.add (i * 4 + 3)) = some (.bool rs) ∧ MemsAt w vm q.1 ∧ MemsAt w vo q.2 := by
      intro i hi
      obtain ⟨cs', h1, h2⟩ := hx i (by omega)
      rw [cells30] at h1
      obtain ⟨_, hlen, hcell⟩ := World.cells?_some h1
      obtain ⟨xs, k, hk, hxy, _, hxl, hf⟩ := DataW.trod_struct Try.underlying30 h2
      have g0 := hf 0 _ rfl
      have g1 := hf 1 _ rfl
      have g2 := hf 2 _ rfl
      have g3 := hf 3 _ rfl
      match xs, hxl, cs', hlen with
      | [y0, y1, y2, y3], _, [u0, u1, u2, u3], _ =>
        simp [cells23, cells28, cells4] at g0 g1 g2 g3
        have e0 := hcell 0 (by omega)
        have e1 := hcell 1 (by omega)
        have e2 := hcell 2 (by omega)
        have e3 := hcell 3 (by omega)
        rw [add_add] at e0 e1 e2 e3
        obtain ⟨ix, f0, _⟩ := DataW.trod_int Try.underlying23 g0
        obtain ⟨vm, i1, f1, hm1⟩ := open_mems g1
        obtain ⟨vo, i2, f2, hm2⟩ := open_mems g2
        obtain ⟨rs, f3, _⟩ := DataW.trod_bool Try.underlying4 g3
        simp at f0 f1 f2 f3 e0 e1 e2 e3
        subst f0 f1 f2 f3
        exact ⟨(i1, i2), ix, u1, u2, rs, e0, e1, e2, e3, hm1, hm2⟩
    obtain ⟨q, hq⟩ := choose_lt hs
    have hlen : ((List.range len).map q).length = len := by simp
    refine ⟨_, (List.range len).map q, rfl, some a, cap, by rw [hlen], by rw [hlen]; unfold maxLen at hm; omega, ?_⟩
    by_cases h0 : len = 0
    · exact Or.inl (by rw [hlen]; exact h0)
    · right
      obtain ⟨_, _, _, _, c0, _⟩ := hq 0 (by omega)
      obtain ⟨b, o, spot⟩ := a
      have hspot : spot = none := by simpa [Addr.add] using World.cell?_spot c0
      subst hspot
      refine ⟨b, o, rfl, by simpa [Addr.add] using World.block_lt_of_cell? w _ c0, fun j hj => ?_⟩
      rw [hlen] at hj
      obtain ⟨ix, vm, vo, rs, d0, d1, d2, d3, hm1, hm2⟩ := hq j hj
      rw [add_plain] at d0 d1 d2 d3
      refine ⟨ix, vm, vo, rs, d0, ?_, ?_, ?_, ?_, ?_⟩
      · rw [Nat.add_assoc]; exact d1
      · rw [Nat.add_assoc]; exact d2
      · rw [Nat.add_assoc]; exact d3
      · rw [cfAt_map _ _ _ hj]; exact hm1
      · rw [cfAt_map _ _ _ hj]; exact hm2
end

end Go.Proofs.Qxb6614468a.inc
