/-
  zzConfs.
-/
import Derived.Test.Qxb6614468aRow4
import Derived.Deep.RegionHeld3
import Derived.Deep.DrawnRows
namespace Go.Proofs.Qxb6614468a.inc
open Go.RowKit Go.Deep
set_option linter.unusedVariables false
attribute [local go_sem ↓] Go.wp_at_zero Go.wp_at_succ

theorem confs_nil {w : World} {cs : List (List ByteArray × List ByteArray)} (h : cs.length = 0) : ConfsAt w (.slice none 0 0) cs := ⟨none, 0, by rw [h], by omega, Or.inl h⟩

theorem row_on {g t n : Nat} {f : Nat → Value} {wr w1 w2 : World} (hr : wr.rowIs g t n f) (h1 : Below wr.drew.heap.size wr.drew w1) (h2 : Below w1.heap.size w1 w2) : w2.rowIs g t n f :=
  hr.of_block ((h2.block g (Nat.lt_of_lt_of_le hr.lt h1.size)).trans (h1.block g hr.lt))

theorem conf_round {g t n k : Nat} {cs : List (List ByteArray × List ByteArray)} {f : Nat → Value} {wr w1 w2 : World} {ix : Int} {v1 v2 : Value} {rs : Bool} (O : Obj)
    (hr : wr.rowIs g t (n * 4) f) (hf : Filled4 g cs k f wr) (hb1 : Below wr.drew.heap.size wr.drew w1) (hb2 : Below w1.heap.size w1 w2)
    (hm1 : MemsFrom wr.drew.heap.size w1 v1 (cfAt cs k).1) (hm2 : MemsFrom w1.heap.size w2 v2 (cfAt cs k).2) :
    ∃ f', (((((w2.setCell ⟨g, k * 4, none⟩ (.int .u64 ix)).setCell ⟨g, k * 4 + 1, none⟩ v1).setCell ⟨g, k * 4 + 2, none⟩ v2).setCell ⟨g, k * 4 + 3, none⟩ (.bool rs)).alloc O).rowIs g t (n * 4) f' ∧
      Filled4 g cs (k + 1) f' (((((w2.setCell ⟨g, k * 4, none⟩ (.int .u64 ix)).setCell ⟨g, k * 4 + 1, none⟩ v1).setCell ⟨g, k * 4 + 2, none⟩ v2).setCell ⟨g, k * 4 + 3, none⟩ (.bool rs)).alloc O) := by
  have hlt : g + 1 ≤ wr.drew.heap.size := hr.lt
  have hlt1 : g + 1 ≤ w1.heap.size := Nat.le_trans hlt hb1.size
  have hb : Below wr.heap.size wr w2 := belowOn (belowOn (Below.refl _ wr).drew hb1) hb2
  obtain ⟨f', h1, h2⟩ := conf_step (ix := ix) (rs := rs) (row_on hr hb1 hb2) (hf.below hb) (hm1.kept hlt hb2.size fun b o _ h => hb2.cell (p := ⟨b, o, none⟩) h) (hm2.kept hlt1 (Nat.le_refl _) fun _ _ _ _ => rfl)
  exact ⟨f', h1.alloc O, h2.below (belowNew (Below.refl _ _) O)⟩

theorem round_below {k : Nat} {w wr w1 w2 : World} {ix : Int} {v1 v2 : Value} {rs : Bool} (O : Obj) (hbel : Below w.heap.size w wr) (hb1 : Below wr.drew.heap.size wr.drew w1) (hb2 : Below w1.heap.size w1 w2) :
    Below w.heap.size w (((((w2.setCell ⟨w.heap.size, k * 4, none⟩ (.int .u64 ix)).setCell ⟨w.heap.size, k * 4 + 1, none⟩ v1).setCell ⟨w.heap.size, k * 4 + 2, none⟩ v2).setCell ⟨w.heap.size, k * 4 + 3, none⟩ (.bool rs)).alloc O) :=
  belowNew (((((belowOn (belowOn hbel.drew hb1) hb2).setCell (Nat.le_refl _) _).setCell (Nat.le_refl _) _).setCell (Nat.le_refl _) _).setCell (Nat.le_refl _) _) O

set_option maxRecDepth 100000 in
set_option maxHeartbeats 3200000 in
/-- zzConfs. -/
theorem confs_any (v : Value) (cs : List (List ByteArray × List ByteArray)) (w : World) (hm : ConfsAt w v cs) (hl : cs.length ≤ 1048577) (hi : ∀ i, i < cs.length → (cfAt cs i).1.length ≤ 1048577 ∧ (cfAt cs i).2.length ≤ 1048577) :
    Calls Try.prog 7 #[v] w fun e w' => (∃ a n c, e = .returned (.slice a n c) ∧ ConfsAt w' (.slice a n c) cs) ∧ Below w.heap.size w w' := by
  obtain ⟨a, c, rfl, hn, hc⟩ := hm
  have hnil := fun (w : World) => Lib.run_eql_slice_nil (P := Try.prog) w
  have hmk := run_make41 cs.length hl
  rcases hc with hc | ⟨b, o, rfl, hlt, hc⟩
  · have h0 : (cs.length : Int) ≤ 0 := by omega
    have HZ : Hid (cs.length = 0) := hc
    clear hc
    cases a with
    | none =>
      go_enter Try.func7, Try.ntmps7
      go_wp2
      go_ret
      exact ⟨⟨_, _, _, rfl, confs_nil HZ.out⟩, Below.refl _ _⟩
    | some ad =>
      go_enter Try.func7, Try.ntmps7
      go_wp2
      refine wp_loop_rounds 1 ?_
      rw [rounds_succ]
      go_wp2
      go_ret
      exact ⟨⟨_, _, _, rfl, _, _, rfl, hn, Or.inl HZ.out⟩, belowNew (Below.refl _ _) _⟩
  · have HC : Hid (∀ i, i < cs.length → ∃ (ix : Int) (vm vo : Value) (rs : Bool), w.cell? ⟨b, o + i * 4, none⟩ = some (.int .u64 ix) ∧ w.cell? ⟨b, o + i * 4 + 1, none⟩ = some vm ∧
        w.cell? ⟨b, o + i * 4 + 2, none⟩ = some vo ∧ w.cell? ⟨b, o + i * 4 + 3, none⟩ = some (.bool rs) ∧ MemsAt w vm (cfAt cs i).1 ∧ MemsAt w vo (cfAt cs i).2) := hc
    have HI : Hid (∀ i, i < cs.length → (cfAt cs i).1.length ≤ 1048577 ∧ (cfAt cs i).2.length ≤ 1048577) := hi
    clear hc hi
    go_enter Try.func7, Try.ntmps7
    go_wp2
    go_loopw [4] (fun i wr => ∃ (k : Nat) (f : Nat → Value), k ≤ cs.length ∧ i = .int .i64 k ∧ Below w.heap.size w wr ∧ Hid (wr.rowIs w.heap.size 41 (cs.length * 4) f) ∧ Hid (Filled4 w.heap.size cs k f wr)) (fun i _ => cs.length - (intOf i).toNat)
    case atStart =>
      obtain ⟨f, hf⟩ := made4_row w cs.length 41
      exact ⟨0, f, Nat.zero_le _, rfl, belowNew (Below.refl _ _) _, hf, fun i hi => absurd hi (Nat.not_lt_zero _)⟩
    case round =>
      obtain ⟨k, f, hk, rfl, hbel, HR, HF⟩ := hrel
      clear hmk hnil
      by_cases hlk : k < cs.length
      · obtain ⟨ix, vm, vo, rs, c0, c1, c2, c3, hm, ho⟩ := HC.out k hlk
        obtain ⟨l1, l2⟩ := HI.out k hlk
        obtain ⟨am, nm, cm, hvm⟩ : ∃ a n c, vm = .slice a n c := by obtain ⟨a, c, h, _⟩ := hm; exact ⟨a, _, c, h⟩
        obtain ⟨ao, no, co, hvo⟩ : ∃ a n c, vo = .slice a n c := by obtain ⟨a, c, h, _⟩ := ho; exact ⟨a, _, c, h⟩
        subst hvm hvo
        have HM : Hid (MemsAt w (.slice am nm cm) (cfAt cs k).1) := hm
        have HO : Hid (MemsAt w (.slice ao no co) (cfAt cs k).2) := ho
        have d0 := (hbel.cell (p := ⟨b, o + k * 4, none⟩) hlt).trans c0
        have d1 := (hbel.cell (p := ⟨b, o + k * 4 + 1, none⟩) hlt).trans c1
        have d2 := (hbel.cell (p := ⟨b, o + k * 4 + 2, none⟩) hlt).trans c2
        have d3 := (hbel.cell (p := ⟨b, o + k * 4 + 3, none⟩) hlt).trans c3
        have hltr : b < wr.heap.size := Nat.lt_of_lt_of_le hlt hbel.size
        have hne : ∀ {i j : Nat}, (⟨w.heap.size, i, none⟩ : Addr) ≠ ⟨b, j, none⟩ := by
          intro i j e
          have := congrArg Addr.block e
          simp at this
          omega
        have i0 : (0 : Int) ≤ (k : Int) := Int.natCast_nonneg _
        have i1 : (k : Int) < (cs.length : Int) := by omega
        clear c0 c1 c2 c3 hm ho
        go_wp2
        go_region_held3 (fun w' => w'.cell? ⟨b, o + k * 4, none⟩ = some (.int .u64 ix) ∧ w'.cell? ⟨b, o + k * 4 + 1, none⟩ = some (.slice am nm cm) ∧ w'.cell? ⟨b, o + k * 4 + 2, none⟩ = some (.slice ao no co) ∧ w'.cell? ⟨b, o + k * 4 + 3, none⟩ = some (.bool rs))
          (first
            | go_keep
            | (go_split_ands; refine ⟨?_, ?_, ?_, ?_⟩ <;> (rw [hb2.cell (by exact hlt1)]; assumption))
            | (go_split_ands; refine ⟨?_, ?_, ?_, ?_⟩ <;> (rw [hb1.cell (by exact hltr)]; assumption))
            | (refine ⟨?_, ?_, ?_, ?_⟩ <;> (rw [World.cell?_alloc_lt (h := by simpa using hlt2), World.cell?_setCell_other _ _ _ _ hne, World.cell?_setCell_other _ _ _ _ hne, World.cell?_setCell_other _ _ _ _ hne, World.cell?_setCell_other _ _ _ _ hne]; assumption)))
          (first
            | (go_at_call_of 13 (Value.slice am nm cm); refine (members_any _ (cfAt cs k).1 _ (by exact HM.out.below hbel.drew) l1).mono ?_; rintro e w1 ⟨⟨a1, n1, q1, rfl, hm1⟩, hb1⟩; have hlt1 : b < w1.heap.size := Nat.lt_of_lt_of_le hltr hb1.size)
            | (go_at_call_of 13 (Value.slice ao no co); refine (members_any _ (cfAt cs k).2 _ (by exact HO.out.below (belowOn hbel.drew hb1)) l2).mono ?_; rintro e w2 ⟨⟨a2, n2, q2, rfl, hm2⟩, hb2⟩; have hr2 := row_on HR.out hb1 hb2; have p0 := hr2.cell (i := k * 4) (by omega); have p1 := hr2.cell (i := k * 4 + 1) (by omega); have p2 := hr2.cell (i := k * 4 + 2) (by omega); have p3 := hr2.cell (i := k * 4 + 3) (by omega); have z0 := hr2.frozen (k * 4); have z1 := hr2.frozen (k * 4 + 1); have z2 := hr2.frozen (k * 4 + 2); have z3 := hr2.frozen (k * 4 + 3); have hg2 := hr2.lt; have hlt2 : b < w2.heap.size := Nat.lt_of_lt_of_le hlt1 hb2.size; have s0 := (hb2.cell (p := ⟨b, o + k * 4, none⟩) hlt1).trans ((hb1.cell (p := ⟨b, o + k * 4, none⟩) hltr).trans d0); have s1 := (hb2.cell (p := ⟨b, o + k * 4 + 1, none⟩) hlt1).trans ((hb1.cell (p := ⟨b, o + k * 4 + 1, none⟩) hltr).trans d1); have s2 := (hb2.cell (p := ⟨b, o + k * 4 + 2, none⟩) hlt1).trans ((hb1.cell (p := ⟨b, o + k * 4 + 2, none⟩) hltr).trans d2); have s3 := (hb2.cell (p := ⟨b, o + k * 4 + 3, none⟩) hlt1).trans ((hb1.cell (p := ⟨b, o + k * 4 + 3, none⟩) hltr).trans d3); have HR2 : Hid (w2.rowIs w.heap.size 41 (cs.length * 4) f) := hr2; clear hr2)
            | (go_at_call 12; refine (newcf_any _ _ _ _ _ ⟨_, _, _, rfl⟩ ⟨_, _, _, rfl⟩).mono ?_; rintro e w3 ⟨rfl, rfl⟩))
        obtain ⟨f', g1, g2⟩ := conf_round (ix := ix) (rs := rs) (Obj.cells #[Value.int IntKind.u64 ix, Value.slice a1 n1 q1, Value.slice a2 n2 q2, Value.bool rs] 41) HR.out HF.out hb1 hb2 hm1 hm2
        have g3 := round_below (k := k) (ix := ix) (v1 := Value.slice a1 n1 q1) (v2 := Value.slice a2 n2 q2) (rs := rs) (Obj.cells #[Value.int IntKind.u64 ix, Value.slice a1 n1 q1, Value.slice a2 n2 q2, Value.bool rs] 41) hbel hb1 hb2
        have G1 : Hid _ := g1
        have G2 : Hid _ := g2
        have G3 : Hid _ := g3
        clear g1 g2 g3 hm1 hm2 hb1 hb2 HR HF HR2 hbel
        go_wp2
        go_roundw
        case rel => exact ⟨k + 1, f', by omega, by go_num, G3.out, G1, G2⟩
        case measure => simp [intOf]; omega
      · obtain rfl : k = cs.length := by omega
        go_wp2
        go_ret
        exact ⟨⟨_, _, _, rfl, filled4_confs hn HR.out HF.out⟩, hbel⟩

end Go.Proofs.Qxb6614468a.inc
