/-
  zzInsert.
-/
import Derived.Test.Qxb6614468aStripAll
namespace Go.Proofs.Qxb6614468a.inc
open Go.RowKit Go.Deep
set_option linter.unusedVariables false

/-- The configurations with one put in at p. -/
def ins (cs : List (List ByteArray × List ByteArray)) (p : Nat) (cf : List ByteArray × List ByteArray) : List (List ByteArray × List ByteArray) := cs.take p ++ cf :: cs.drop p
theorem ins_len (cs : List (List ByteArray × List ByteArray)) (p : Nat) (cf : List ByteArray × List ByteArray) (hp : p ≤ cs.length) : (ins cs p cf).length = cs.length + 1 := by
  simp [ins]; omega
theorem ins_lo (cs : List (List ByteArray × List ByteArray)) (p : Nat) (cf : List ByteArray × List ByteArray) (k : Nat) (hp : p ≤ cs.length) (h : k < p) : cfAt (ins cs p cf) k = cfAt cs k := by
  rw [cfAt, cfAt, ins, List.getD_eq_getElem?_getD, List.getD_eq_getElem?_getD, List.getElem?_append_left (by simp; omega), List.getElem?_take, if_pos h]
theorem ins_at (cs : List (List ByteArray × List ByteArray)) (p : Nat) (cf : List ByteArray × List ByteArray) (hp : p ≤ cs.length) : cfAt (ins cs p cf) p = cf := by
  have hl : (cs.take p).length = p := by simp; omega
  rw [cfAt, ins, List.getD_eq_getElem?_getD, List.getElem?_append_right (by omega), hl, Nat.sub_self]
  rfl
theorem ins_hi (cs : List (List ByteArray × List ByteArray)) (p : Nat) (cf : List ByteArray × List ByteArray) (k : Nat) (hp : p ≤ k) (h : k < cs.length) : cfAt (ins cs p cf) (k + 1) = cfAt cs k := by
  have hl : (cs.take p).length = p := by simp; omega
  rw [cfAt, cfAt, ins, List.getD_eq_getElem?_getD, List.getD_eq_getElem?_getD, List.getElem?_append_right (by omega), hl, show k + 1 - p = (k - p) + 1 from by omega, List.getElem?_cons_succ, List.getElem?_drop, show p + (k - p) = k from by omega]
theorem takeC_snoc (cs : List (List ByteArray × List ByteArray)) (k : Nat) (h : k < cs.length) : cs.take (k + 1) = cs.take k ++ [cfAt cs k] := by
  rw [List.take_succ_eq_append_getElem h, cfAt, List.getD_eq_getElem?_getD, List.getElem?_eq_getElem h]
  rfl

/-- The cells of a row of configurations. -/
def Quads (w : World) (xs : List Value) (cs : List (List ByteArray × List ByteArray)) : Prop :=
  ∀ i, i < cs.length → ∃ (ix : Int) (vm vo : Value) (rs : Bool), xs[i * 4]? = some (.int .u64 ix) ∧ xs[i * 4 + 1]? = some vm ∧ xs[i * 4 + 2]? = some vo ∧ xs[i * 4 + 3]? = some (.bool rs) ∧
    MemsAt w vm (cfAt cs i).1 ∧ MemsAt w vo (cfAt cs i).2

theorem quads_snoc {w : World} {xs : List Value} {cs : List (List ByteArray × List ByteArray)} {cf : List ByteArray × List ByteArray} {ix : Int} {vm vo : Value} {rs : Bool} (hl : xs.length = cs.length * 4) (h : Quads w xs cs)
    (hm : MemsAt w vm cf.1) (ho : MemsAt w vo cf.2) : Quads w (xs ++ [.int .u64 ix, vm, vo, .bool rs]) (cs ++ [cf]) := by
  intro i hi
  by_cases e : i = cs.length
  · subst e
    have ec : cfAt (cs ++ [cf]) cs.length = cf := by
      rw [cfAt, List.getD_eq_getElem?_getD, List.getElem?_append_right (Nat.le_refl _), Nat.sub_self]
      rfl
    rw [ec]
    refine ⟨ix, vm, vo, rs, ?_, ?_, ?_, ?_, hm, ho⟩
    · rw [List.getElem?_append_right (by omega), hl, Nat.sub_self]; rfl
    · rw [List.getElem?_append_right (by omega), hl, show cs.length * 4 + 1 - cs.length * 4 = 1 from by omega]; rfl
    · rw [List.getElem?_append_right (by omega), hl, show cs.length * 4 + 2 - cs.length * 4 = 2 from by omega]; rfl
    · rw [List.getElem?_append_right (by omega), hl, show cs.length * 4 + 3 - cs.length * 4 = 3 from by omega]; rfl
  · have hi' : i < cs.length := by simp at hi; omega
    obtain ⟨ix', vm', vo', rs', h0, h1, h2, h3, hm', ho'⟩ := h i hi'
    have ec : cfAt (cs ++ [cf]) i = cfAt cs i := by
      rw [cfAt, cfAt, List.getD_eq_getElem?_getD, List.getD_eq_getElem?_getD, List.getElem?_append_left hi']
    rw [ec]
    refine ⟨ix', vm', vo', rs', ?_, ?_, ?_, ?_, hm', ho'⟩
    · rw [List.getElem?_append_left (by omega), h0]
    · rw [List.getElem?_append_left (by omega), h1]
    · rw [List.getElem?_append_left (by omega), h2]
    · rw [List.getElem?_append_left (by omega), h3]

theorem owns_confs {base n : Nat} {w w' : World} {v : Value} {cs : List (List ByteArray × List ByteArray)} {xs : List Value} (hn : cs.length ≤ 9223372036854775807) (hcn : cs.length = n) (h0 : 0 < n) (ho : w'.ownsRow base 30 4 v n xs) (hq : Quads w xs cs) (hb : Below w.heap.size w w') :
    ∃ a n c, v = .slice a n c ∧ ConfsAt w' (.slice a n c) cs := by
  subst hcn
  obtain ⟨g, cap, rfl, hg, hlt⟩ := ho.form h0
  refine ⟨_, _, _, rfl, _, _, rfl, hn, Or.inr ⟨g, 0, rfl, hlt, fun i hi => ?_⟩⟩
  obtain ⟨ix, vm, vo, rs, h0, h1, h2, h3, hm, ho'⟩ := hq i hi
  refine ⟨ix, vm, vo, rs, ?_, ?_, ?_, ?_, hm.below hb, ho'.below hb⟩
  · rw [Nat.zero_add, ho.cellAt _ (by omega), h0]
  · rw [Nat.zero_add, ho.cellAt _ (by omega), h1]
  · rw [Nat.zero_add, ho.cellAt _ (by omega), h2]
  · rw [Nat.zero_add, ho.cellAt _ (by omega), h3]

theorem run_make30_own (n : Nat) (hn : n ≤ 1048577) (w : World) :
    (Instr.makeSlice 22 (.int .i64 0) (.int .i64 (n : Int))).run Try.prog w = .ok (.slice (some ⟨w.heap.size, 0, none⟩) 0 n) (w.alloc (.cells (made4 n) 30)) := by
  obtain ⟨i0, hi, hz0, hz1, hz2⟩ := info_parts info30
  have h := run_make (P := Try.prog) (w := w) 22 30 i0 _ Try.underlying22 hi hz0 .i64 .i64 0 (n : Int) (by omega) (by omega) (by rw [hz2]; omega) (by omega)
  rw [hz1] at h
  simpa [made4, Value.cells] using h

set_option maxRecDepth 100000 in
set_option maxHeartbeats 3200000 in
/-- zzInsert. -/
theorem insert_any (v : Value) (cs : List (List ByteArray × List ByteArray)) (p : Nat) (ix : Int) (am : Option Addr) (nm cm : Nat) (ao : Option Addr) (no co : Nat) (rs : Bool) (cf : List ByteArray × List ByteArray) (w : World) (hc : ConfsAt w v cs)
    (hm : MemsAt w (.slice am nm cm) cf.1) (ho : MemsAt w (.slice ao no co) cf.2) (hp : p ≤ cs.length) (hl : cs.length ≤ 1048576) :
    Calls Try.prog 8 #[v, .int .i64 p, .agg #[.int .u64 ix, .slice am nm cm, .slice ao no co, .bool rs]] w fun e w' => (∃ a n c, e = .returned (.slice a n c) ∧ ConfsAt w' (.slice a n c) (ins cs p cf)) ∧ Below w.heap.size w w' := by
  obtain ⟨i0, hi, hz0, hz1, hz2⟩ := info_parts info30
  have hmk := run_make30_own cs.length (by omega)
  have HM : Hid (MemsAt w (.slice am nm cm) cf.1) := hm
  have HO : Hid (MemsAt w (.slice ao no co) cf.2) := ho
  obtain ⟨a, c, rfl, hn, hc⟩ := hc
  clear hm ho
  have HC : Hid (∀ i, i < cs.length → ∃ b o, a = some ⟨b, o, none⟩ ∧ b < w.heap.size ∧ ∃ (ix : Int) (vm vo : Value) (rs : Bool), w.cell? ⟨b, o + i * 4, none⟩ = some (.int .u64 ix) ∧ w.cell? ⟨b, o + i * 4 + 1, none⟩ = some vm ∧
      w.cell? ⟨b, o + i * 4 + 2, none⟩ = some vo ∧ w.cell? ⟨b, o + i * 4 + 3, none⟩ = some (.bool rs) ∧ MemsAt w vm (cfAt cs i).1 ∧ MemsAt w vo (cfAt cs i).2) := by
    intro i hi
    rcases hc with hc | ⟨b, o, ha, hlt, hc⟩
    · omega
    · exact ⟨b, o, ha, hlt, hc i hi⟩
  clear hc
  go_enter Try.func8, Try.ntmps8
  go_wp2
  go_loopw [7, 8] (fun out i wr => ∃ (k : Nat) (xs : List Value), k ≤ p ∧ i = .int .i64 k ∧ Below (w.heap.size + 1) (w.alloc (.cells #[.int .u64 ix, .slice am nm cm, .slice ao no co, .bool rs] 30)) wr ∧
      Hid (wr.ownsRow (w.heap.size + 1) 30 4 out k xs) ∧ Hid (Quads w xs ((ins cs p cf).take k))) (fun _ i _ => p - (intOf i).toNat)
  case atStart =>
    refine ⟨0, [], Nat.zero_le _, rfl, (Below.refl _ _).alloc (by simp) _, ?_, fun i hi => absurd hi (by simp)⟩
    show World.ownsRow _ _ _ _ _ _ _
    have h := World.ownsRow_made (base := w.heap.size + 1) (e := 30) (size := 4) (w.alloc (.cells #[.int .u64 ix, .slice am nm cm, .slice ao no co, .bool rs] 30)) (made4 cs.length) cs.length (by simp) (by unfold maxLen; omega) (made4_size _)
    simpa using h
  case round =>
    obtain ⟨k, xs, hk, rfl, hbel, HW, HQ⟩ := hrel
    clear hmk
    have hsz := hbel.size
    by_cases hlk : k < p
    · obtain ⟨b, o, rfl, hlt, jx, vm, vo, js, c0, c1, c2, c3, hm, ho⟩ := HC.out k (by omega)
      obtain ⟨am', nm', cm', hvm⟩ : ∃ a n c, vm = .slice a n c := by obtain ⟨a, c, h, _⟩ := hm; exact ⟨a, _, c, h⟩
      obtain ⟨ao', no', co', hvo⟩ : ∃ a n c, vo = .slice a n c := by obtain ⟨a, c, h, _⟩ := ho; exact ⟨a, _, c, h⟩
      subst hvm hvo
      have KM : Hid (MemsAt w (.slice am' nm' cm') (cfAt cs k).1) := hm
      have KO : Hid (MemsAt w (.slice ao' no' co') (cfAt cs k).2) := ho
      have d0 : wr.cell? ⟨b, o + k * 4, none⟩ = some (.int .u64 jx) := by rw [hbel.cell (by exact Nat.lt_succ_of_lt hlt), World.cell?_alloc_lt (h := hlt)]; exact c0
      have d1 : wr.cell? ⟨b, o + k * 4 + 1, none⟩ = some (.slice am' nm' cm') := by rw [hbel.cell (by exact Nat.lt_succ_of_lt hlt), World.cell?_alloc_lt (h := hlt)]; exact c1
      have d2 : wr.cell? ⟨b, o + k * 4 + 2, none⟩ = some (.slice ao' no' co') := by rw [hbel.cell (by exact Nat.lt_succ_of_lt hlt), World.cell?_alloc_lt (h := hlt)]; exact c2
      have d3 : wr.cell? ⟨b, o + k * 4 + 3, none⟩ = some (.bool js) := by rw [hbel.cell (by exact Nat.lt_succ_of_lt hlt), World.cell?_alloc_lt (h := hlt)]; exact c3
      clear c0 c1 c2 c3 hm ho
      have h63 : k + 1 ≤ maxLen := by unfold maxLen; omega
      have hby : (k + 1) * 64 ≤ 140737488355328 := by omega
      go_wp2_with (at_builtin; refine wpList_append_lies _ (by rfl) (.tmp 18) (.tmp 23) 22 (by rfl) (w.heap.size + 1) 30 i0 _ 4 64 Try.underlying22 hi hz0 hz1 hz2 rfl (by decide) u7 k xs (by rfl) (HW.out.alloc _) ⟨wr.heap.size, 0, none⟩ 1 1 [.int .u64 jx, .slice am' nm' cm', .slice ao' no' co', .bool js] (by rfl) (by rfl) (World.news_of_block (cs := #[.int .u64 jx, .slice am' nm' cm', .slice ao' no' co', .bool js]) (t := 30) (fr := (0, 0)) (heap_alloc_new wr _)) (by simp [Value.oneCell']) (by decide) h63 hby (by simp at hsz ⊢; omega) (wr.heap.size + 1) (by simp) ?_; intro g cap w1 hown1 hgrow hat hlt2)
      go_roundw
      case rel =>
        refine ⟨k + 1, xs ++ [.int .u64 jx, .slice am' nm' cm', .slice ao' no' co', .bool js], by omega, by go_num, Below.grown (hbel.alloc (by simp at hsz; exact hsz) _) hgrow (by simp at hsz ⊢; omega) (fun r hr => (HW.out.lt r hr).1), ?_, ?_⟩
        · exact hown1
        show Quads _ _ _
        rw [takeC_snoc _ k (by rw [ins_len _ _ _ hp]; omega), ins_lo cs p cf k hp hlk]
        exact quads_snoc (by rw [HW.out.1, List.length_take, ins_len _ _ _ hp, Nat.min_eq_left (by omega)]) HQ.out KM.out KO.out
      case measure => simp [intOf]; omega
    · obtain rfl : k = p := by omega
      have bx0 : wr.cell? ⟨w.heap.size, 0, none⟩ = some (.int .u64 ix) := by rw [hbel.cell (by exact Nat.lt_succ_self _), World.cell?_alloc_at (hn := rfl)]; rfl
      have bx1 : wr.cell? ⟨w.heap.size, 1, none⟩ = some (.slice am nm cm) := by rw [hbel.cell (by exact Nat.lt_succ_self _), World.cell?_alloc_at (hn := rfl)]; rfl
      have bx2 : wr.cell? ⟨w.heap.size, 2, none⟩ = some (.slice ao no co) := by rw [hbel.cell (by exact Nat.lt_succ_self _), World.cell?_alloc_at (hn := rfl)]; rfl
      have bx3 : wr.cell? ⟨w.heap.size, 3, none⟩ = some (.bool rs) := by rw [hbel.cell (by exact Nat.lt_succ_self _), World.cell?_alloc_at (hn := rfl)]; rfl
      have h63 : k + 1 ≤ maxLen := by unfold maxLen; omega
      have hby : (k + 1) * 64 ≤ 140737488355328 := by omega
      go_wp2_with (at_builtin; refine wpList_append_lies _ (by rfl) (.tmp 25) (.tmp 27) 22 (by rfl) (w.heap.size + 1) 30 i0 _ 4 64 Try.underlying22 hi hz0 hz1 hz2 rfl (by decide) u7 k xs (by rfl) (HW.out.alloc _) ⟨wr.heap.size, 0, none⟩ 1 1 [.int .u64 ix, .slice am nm cm, .slice ao no co, .bool rs] (by rfl) (by rfl) (World.news_of_block (cs := #[.int .u64 ix, .slice am nm cm, .slice ao no co, .bool rs]) (t := 30) (fr := (0, 0)) (heap_alloc_new wr _)) (by simp [Value.oneCell']) (by decide) h63 hby (by simp at hsz ⊢; omega) (wr.heap.size + 1) (by simp) ?_; intro g cap w1 hown1 hgrow hat hlt2)
      have hbel1 := Below.grown (hbel.alloc (by simp at hsz; exact hsz) (.cells #[.int .u64 ix, .slice am nm cm, .slice ao no co, .bool rs] 30)) hgrow (by simp at hsz ⊢; omega) (fun r hr => (HW.out.lt r hr).1)
      have HQ1 : Hid (Quads w (xs ++ [.int .u64 ix, .slice am nm cm, .slice ao no co, .bool rs]) ((ins cs k cf).take (k + 1))) := by
        show Quads _ _ _
        rw [takeC_snoc _ k (by rw [ins_len _ _ _ hp]; omega), ins_at cs k cf hp]
        exact quads_snoc (by rw [HW.out.1, List.length_take, ins_len _ _ _ hp, Nat.min_eq_left (by omega)]) HQ.out HM.out HO.out
      clear bx0 bx1 bx2 bx3 hat hlt2 hgrow HW HQ hbel hsz h63 hby
      go_loopw [7, 9] (fun out i ws => ∃ (m : Nat) (ys : List Value), k ≤ m ∧ m ≤ cs.length ∧ i = .int .i64 m ∧ Below (w.heap.size + 1) (w.alloc (.cells #[.int .u64 ix, .slice am nm cm, .slice ao no co, .bool rs] 30)) ws ∧
        Hid (ws.ownsRow (w.heap.size + 1) 30 4 out (m + 1) ys) ∧ Hid (Quads w ys ((ins cs k cf).take (m + 1)))) (fun _ i _ => cs.length - (intOf i).toNat)
      case atStart => exact ⟨k, _, Nat.le_refl _, hp, rfl, hbel1, hown1, HQ1⟩
      case round =>
        obtain ⟨m, ys, hkm, hmm, rfl, hbel2, HW2, HQ2⟩ := hrel
        clear hbel1 hown1 HQ1
        have hsz := hbel2.size
        by_cases hlk : m < cs.length
        · obtain ⟨b, o, rfl, hlt, jx, vm, vo, js, c0, c1, c2, c3, hm, ho⟩ := HC.out m hlk
          obtain ⟨am', nm', cm', hvm⟩ : ∃ a n c, vm = .slice a n c := by obtain ⟨a, c, h, _⟩ := hm; exact ⟨a, _, c, h⟩
          obtain ⟨ao', no', co', hvo⟩ : ∃ a n c, vo = .slice a n c := by obtain ⟨a, c, h, _⟩ := ho; exact ⟨a, _, c, h⟩
          subst hvm hvo
          have KM : Hid (MemsAt w (.slice am' nm' cm') (cfAt cs m).1) := hm
          have KO : Hid (MemsAt w (.slice ao' no' co') (cfAt cs m).2) := ho
          have d0 : wr.cell? ⟨b, o + m * 4, none⟩ = some (.int .u64 jx) := by rw [hbel2.cell (by exact Nat.lt_succ_of_lt hlt), World.cell?_alloc_lt (h := hlt)]; exact c0
          have d1 : wr.cell? ⟨b, o + m * 4 + 1, none⟩ = some (.slice am' nm' cm') := by rw [hbel2.cell (by exact Nat.lt_succ_of_lt hlt), World.cell?_alloc_lt (h := hlt)]; exact c1
          have d2 : wr.cell? ⟨b, o + m * 4 + 2, none⟩ = some (.slice ao' no' co') := by rw [hbel2.cell (by exact Nat.lt_succ_of_lt hlt), World.cell?_alloc_lt (h := hlt)]; exact c2
          have d3 : wr.cell? ⟨b, o + m * 4 + 3, none⟩ = some (.bool js) := by rw [hbel2.cell (by exact Nat.lt_succ_of_lt hlt), World.cell?_alloc_lt (h := hlt)]; exact c3
          clear c0 c1 c2 c3 hm ho
          have h63 : m + 1 + 1 ≤ maxLen := by unfold maxLen; omega
          have hby : (m + 1 + 1) * 64 ≤ 140737488355328 := by omega
          go_wp2_with (at_builtin; refine wpList_append_lies _ (by rfl) (.tmp 36) (.tmp 41) 22 (by rfl) (w.heap.size + 1) 30 i0 _ 4 64 Try.underlying22 hi hz0 hz1 hz2 rfl (by decide) u7 (m + 1) ys (by rfl) (HW2.out.alloc _) ⟨wr.heap.size, 0, none⟩ 1 1 [.int .u64 jx, .slice am' nm' cm', .slice ao' no' co', .bool js] (by rfl) (by rfl) (World.news_of_block (cs := #[.int .u64 jx, .slice am' nm' cm', .slice ao' no' co', .bool js]) (t := 30) (fr := (0, 0)) (heap_alloc_new wr _)) (by simp [Value.oneCell']) (by decide) h63 hby (by simp at hsz ⊢; omega) (wr.heap.size + 1) (by simp) ?_; intro g' cap' w2 hown2 hgrow hat hlt2)
          go_roundw
          case rel =>
            refine ⟨m + 1, ys ++ [.int .u64 jx, .slice am' nm' cm', .slice ao' no' co', .bool js], by omega, by omega, by go_num, Below.grown (hbel2.alloc (by simp at hsz; exact hsz) _) hgrow (by simp at hsz ⊢; omega) (fun r hr => (HW2.out.lt r hr).1), ?_, ?_⟩
            · exact hown2
            show Quads _ _ _
            rw [takeC_snoc _ (m + 1) (by rw [ins_len _ _ _ hp]; omega), ins_hi cs k cf m hkm hlk]
            exact quads_snoc (by rw [HW2.out.1, List.length_take, ins_len _ _ _ hp, Nat.min_eq_left (by omega)]) HQ2.out KM.out KO.out
          case measure => simp [intOf]; omega
        · obtain rfl : m = cs.length := by omega
          have hq := HQ2.out
          rw [List.take_of_length_le (by rw [ins_len _ _ _ hp]; exact Nat.le_refl _)] at hq
          have hb0 : Below w.heap.size w wr := belowOn (belowNew (Below.refl _ _) _) (hbel2.mono (by simp))
          obtain ⟨a', n', c', hv, hm'⟩ := owns_confs (by rw [ins_len _ _ _ hp]; omega) (ins_len cs k cf hp) (Nat.succ_pos _) HW2.out hq hb0
          have HV : Hid (u7 = .slice a' n' c') := hv
          have HS : Hid (ConfsAt wr (.slice a' n' c') (ins cs k cf)) := hm'
          clear hq hv hm'
          rw [HV.out]
          go_wp2
          go_ret
          exact ⟨⟨_, _, _, rfl, HS.out⟩, hb0⟩

end Go.Proofs.Qxb6614468a.inc
