/-
  How the slices of the law lie in memory, and what is read of them: of a member its id alone, of a configuration its two lists of members.
-/
import Derived.Test.Qxb6614468aRows
import Derived.WalkKit
import Derived.WalkSpells
namespace Go.Proofs.Qxb6614468a.inc
open Go.RowKit

/-- The id at place j. -/
def idAt (ms : List ByteArray) (j : Nat) : ByteArray := ms.getD j ByteArray.empty
/-- The configuration at place i. -/
def cfAt (cs : List (List ByteArray × List ByteArray)) (i : Nat) : List ByteArray × List ByteArray := cs.getD i ([], [])

/-- A slice of members (two strings each): their ids. -/
def MemsAt (w : World) (v : Value) (ms : List ByteArray) : Prop :=
  ∃ (a : Option Addr) (c : Nat), v = .slice a ms.length c ∧ ms.length ≤ 9223372036854775807 ∧
    (ms.length = 0 ∨ ∃ b o, a = some ⟨b, o, none⟩ ∧ b < w.heap.size ∧
      ∀ j, j < ms.length → w.cell? ⟨b, o + j * 2, none⟩ = some (.string (idAt ms j)) ∧ ∃ s, w.cell? ⟨b, o + j * 2 + 1, none⟩ = some (.string s))

/-- A slice of configurations (four cells each). -/
def ConfsAt (w : World) (v : Value) (cs : List (List ByteArray × List ByteArray)) : Prop :=
  ∃ (a : Option Addr) (c : Nat), v = .slice a cs.length c ∧ cs.length ≤ 9223372036854775807 ∧
    (cs.length = 0 ∨ ∃ b o, a = some ⟨b, o, none⟩ ∧ b < w.heap.size ∧
      ∀ i, i < cs.length → ∃ (ix : Int) (vm vo : Value) (rs : Bool), w.cell? ⟨b, o + i * 4, none⟩ = some (.int .u64 ix) ∧ w.cell? ⟨b, o + i * 4 + 1, none⟩ = some vm ∧
        w.cell? ⟨b, o + i * 4 + 2, none⟩ = some vo ∧ w.cell? ⟨b, o + i * 4 + 3, none⟩ = some (.bool rs) ∧ MemsAt w vm (cfAt cs i).1 ∧ MemsAt w vo (cfAt cs i).2)

theorem MemsAt.below {w w' : World} {v : Value} {ms : List ByteArray} (h : MemsAt w v ms) (hb : Below w.heap.size w w') : MemsAt w' v ms := by
  obtain ⟨a, c, hv, hn, hc⟩ := h
  refine ⟨a, c, hv, hn, ?_⟩
  rcases hc with hc | ⟨b, o, ha, hlt, hc⟩
  · exact Or.inl hc
  · refine Or.inr ⟨b, o, ha, Nat.lt_of_lt_of_le hlt hb.size, fun j hj => ?_⟩
    obtain ⟨h1, s, h2⟩ := hc j hj
    exact ⟨(hb.cell (p := ⟨b, _, none⟩) hlt).trans h1, s, (hb.cell (p := ⟨b, _, none⟩) hlt).trans h2⟩

theorem ConfsAt.below {w w' : World} {v : Value} {cs : List (List ByteArray × List ByteArray)} (h : ConfsAt w v cs) (hb : Below w.heap.size w w') : ConfsAt w' v cs := by
  obtain ⟨a, c, hv, hn, hc⟩ := h
  refine ⟨a, c, hv, hn, ?_⟩
  rcases hc with hc | ⟨b, o, ha, hlt, hc⟩
  · exact Or.inl hc
  · refine Or.inr ⟨b, o, ha, Nat.lt_of_lt_of_le hlt hb.size, fun i hi => ?_⟩
    obtain ⟨ix, vm, vo, rs, h0, h1, h2, h3, hm, ho⟩ := hc i hi
    exact ⟨ix, vm, vo, rs, (hb.cell (p := ⟨b, _, none⟩) hlt).trans h0, (hb.cell (p := ⟨b, _, none⟩) hlt).trans h1, (hb.cell (p := ⟨b, _, none⟩) hlt).trans h2, (hb.cell (p := ⟨b, _, none⟩) hlt).trans h3, hm.below hb, ho.below hb⟩

theorem belowNew {a w : World} (h : Below a.heap.size a w) (o : Obj) : Below a.heap.size a (w.alloc o) := h.alloc h.size o
theorem belowOn {a w w' : World} (h : Below a.heap.size a w) (h' : Below w.heap.size w w') : Below a.heap.size a w' := h.trans (h'.mono h.size)

/-- A slice of members that lies in blocks from lo on. -/
def MemsFrom (lo : Nat) (w : World) (v : Value) (ms : List ByteArray) : Prop :=
  ∃ (a : Option Addr) (c : Nat), v = .slice a ms.length c ∧ ms.length ≤ 9223372036854775807 ∧
    (ms.length = 0 ∨ ∃ b o, a = some ⟨b, o, none⟩ ∧ lo ≤ b ∧ b < w.heap.size ∧
      ∀ j, j < ms.length → w.cell? ⟨b, o + j * 2, none⟩ = some (.string (idAt ms j)) ∧ ∃ s, w.cell? ⟨b, o + j * 2 + 1, none⟩ = some (.string s))

theorem MemsFrom.at {lo : Nat} {w : World} {v : Value} {ms : List ByteArray} (h : MemsFrom lo w v ms) : MemsAt w v ms := by
  obtain ⟨a, c, hv, hn, hc⟩ := h
  refine ⟨a, c, hv, hn, ?_⟩
  rcases hc with hc | ⟨b, o, ha, _, hlt, hc⟩
  · exact Or.inl hc
  · exact Or.inr ⟨b, o, ha, hlt, hc⟩

theorem MemsFrom.kept {lo lo' : Nat} {w w' : World} {v : Value} {ms : List ByteArray} (h : MemsFrom lo w v ms) (hl : lo' ≤ lo) (hs : w.heap.size ≤ w'.heap.size)
    (hk : ∀ b o, lo ≤ b → b < w.heap.size → w'.cell? ⟨b, o, none⟩ = w.cell? ⟨b, o, none⟩) : MemsFrom lo' w' v ms := by
  obtain ⟨a, c, hv, hn, hc⟩ := h
  refine ⟨a, c, hv, hn, ?_⟩
  rcases hc with hc | ⟨b, o, ha, hlo, hlt, hc⟩
  · exact Or.inl hc
  · refine Or.inr ⟨b, o, ha, Nat.le_trans hl hlo, Nat.lt_of_lt_of_le hlt hs, fun j hj => ?_⟩
    obtain ⟨h1, s, h2⟩ := hc j hj
    exact ⟨(hk b _ hlo hlt).trans h1, s, (hk b _ hlo hlt).trans h2⟩

theorem MemsFrom.below {lo : Nat} {w w' : World} {v : Value} {ms : List ByteArray} (h : MemsFrom lo w v ms) (hb : Below w.heap.size w w') : MemsFrom lo w' v ms :=
  h.kept (Nat.le_refl _) hb.size fun b o _ hlt => hb.cell (p := ⟨b, o, none⟩) hlt

/-- Is the id among the members? -/
def hasId (ms : List ByteArray) (id : ByteArray) : Bool := ms.any fun m => m.toList == id.toList

end Go.Proofs.Qxb6614468a.inc
