/-
  The contracts of includes and all below it.
-/
import Derived.Test.Qxb6614468aView
import Derived.LoopTactic
import Derived.LoopN
namespace Go.Proofs.Qxb6614468a.inc
open Go.RowKit
set_option linter.unusedVariables false

/-- The closure of Includes. -/
theorem has_any (s t id : ByteArray) (bid : Nat) (w : World) (hb : bid < w.heap.size) (hid : w.cell? ⟨bid, 0, none⟩ = some (.string id)) :
    Calls Try.prog 19 #[.agg #[.string s, .string t], .pointer (some ⟨bid, 0, none⟩)] w fun e w' => e = .returned (.bool (s.toList == id.toList)) ∧ w' = w.alloc (.cells #[.string s, .string t] 48) := by
  go_enter Try.func19, Try.ntmps19
  go_wp2
  go_ret
  exact ⟨rfl, rfl⟩

theorem hasId_no (ms : List ByteArray) (id : ByteArray) (h : ∀ j, j < ms.length → ((idAt ms j).toList == id.toList) = false) : hasId ms id = false := by
  rw [hasId, List.any_eq_false]
  intro m hm
  obtain ⟨j, hj, rfl⟩ := List.getElem_of_mem hm
  have := h j hj
  rw [idAt, List.getD_eq_getElem?_getD, List.getElem?_eq_getElem hj] at this
  simpa using this
theorem hasId_yes (ms : List ByteArray) (id : ByteArray) (k : Nat) (hk : k < ms.length) (h : ((idAt ms k).toList == id.toList) = true) : hasId ms id = true := by
  rw [hasId, List.any_eq_true]
  rw [idAt, List.getD_eq_getElem?_getD, List.getElem?_eq_getElem hk] at h
  exact ⟨ms[k], List.getElem_mem hk, h⟩

set_option maxHeartbeats 800000 in
/-- slices.IndexFunc over members. -/
theorem index_mem (v : Value) (ms : List ByteArray) (id : ByteArray) (bid : Nat) (w : World) (hm : MemsAt w v ms) (hb : bid < w.heap.size) (hid : w.cell? ⟨bid, 0, none⟩ = some (.string id)) :
    Calls Try.prog 21 #[v, .func (.func 19) #[] #[.pointer (some ⟨bid, 0, none⟩)]] w fun e w' => (∃ r : Int, e = .returned (.int .i64 r) ∧ decide (0 ≤ r) = hasId ms id) ∧ Below w.heap.size w w' := by
  obtain ⟨a, c, rfl, hn, hc⟩ := hm
  rcases hc with hc | ⟨b, o, rfl, hlt, hc⟩
  · have hno := hasId_no ms id (fun j hj => by omega)
    have HN : Hid (hasId ms id = false) := hno
    clear hno
    have hc0 : (ms.length : Int) = 0 := by omega
    go_enter Try.func21, Try.ntmps21
    go_wp2
    refine wp_loop_rounds 1 ?_
    rw [rounds_succ]
    go_wp2
    go_ret
    exact ⟨⟨_, rfl, by rw [HN.out]; decide⟩, Below.refl _ _⟩
  · have HC : Hid (∀ j, j < ms.length → w.cell? ⟨b, o + j * 2, none⟩ = some (.string (idAt ms j)) ∧ ∃ s, w.cell? ⟨b, o + j * 2 + 1, none⟩ = some (.string s)) := hc
    clear hc
    go_enter Try.func21, Try.ntmps21
    go_wp2
    go_loopw [8] (fun i wr => ∃ k : Nat, k ≤ ms.length ∧ i = .int .i64 k ∧ Below w.heap.size w wr ∧ Hid (∀ j, j < k → ((idAt ms j).toList == id.toList) = false)) (fun i _ => ms.length - (intOf i).toNat)
    case atStart => exact ⟨0, Nat.zero_le _, rfl, Below.refl _ _, fun j hj => absurd hj (Nat.not_lt_zero _)⟩
    case round =>
      obtain ⟨k, hk, rfl, hbel, HP⟩ := hrel
      by_cases hlk : k < ms.length
      · obtain ⟨c1, s, c2⟩ := HC.out k hlk
        have d1 := (hbel.cell (p := ⟨b, o + k * 2, none⟩) hlt).trans c1
        have d2 := (hbel.cell (p := ⟨b, o + k * 2 + 1, none⟩) hlt).trans c2
        have d3 := (hbel.cell (p := ⟨bid, 0, none⟩) hb).trans hid
        have hz : bid < wr.heap.size := Nat.lt_of_lt_of_le hb hbel.size
        clear c1 c2
        go_wp2_with (go_at_call 19; refine (has_any _ _ _ _ _ hz d3).mono ?_; rintro e w1 ⟨rfl, rfl⟩)
        · have he : ((idAt ms k).toList == id.toList) = true := by assumption
          go_ret
          refine ⟨⟨_, rfl, ?_⟩, belowNew hbel _⟩
          rw [hasId_yes ms id k hlk he]
          simp
        · have he : ((idAt ms k).toList == id.toList) = false := by assumption
          go_roundw
          case rel =>
            refine ⟨k + 1, by omega, by go_num, belowNew hbel _, fun j hj => ?_⟩
            rcases Nat.lt_succ_iff_lt_or_eq.1 hj with h | rfl
            · exact HP.out j h
            · exact he
          case measure => simp [intOf]; omega
      · go_wp2
        go_ret
        refine ⟨⟨_, rfl, ?_⟩, hbel⟩
        rw [hasId_no ms id (fun j hj => HP.out j (by omega))]
        decide

/-- slices.ContainsFunc over members. -/
theorem contains_mem (v : Value) (ms : List ByteArray) (id : ByteArray) (bid : Nat) (w : World) (hm : MemsAt w v ms) (hb : bid < w.heap.size) (hid : w.cell? ⟨bid, 0, none⟩ = some (.string id)) :
    Calls Try.prog 20 #[v, .func (.func 19) #[] #[.pointer (some ⟨bid, 0, none⟩)]] w fun e w' => e = .returned (.bool (hasId ms id)) ∧ Below w.heap.size w w' := by
  go_enter Try.func20, Try.ntmps20
  go_wp2_with (go_at_call 21; refine (index_mem _ ms id bid _ hm hb hid).mono ?_; rintro e w1 ⟨⟨r, rfl, hr⟩, hb1⟩)
  go_ret
  exact ⟨rfl, hb1⟩

/-- Is the id among the members of the configuration? -/
def hasCf (cf : List ByteArray × List ByteArray) (id : ByteArray) : Bool := hasId cf.1 id || hasId cf.2 id

set_option maxHeartbeats 800000 in
/-- (Configuration).Includes. -/
theorem cf_includes (vm vo : Value) (cf : List ByteArray × List ByteArray) (id : ByteArray) (w : World) (hm : MemsAt w vm cf.1) (ho : MemsAt w vo cf.2) :
    Calls Try.prog 17 #[.agg #[vm, vo], .string id] w fun e w' => e = .returned (.bool (hasCf cf id)) ∧ Below w.heap.size w w' := by
  have hx : Below w.heap.size w ((w.alloc (.cells #[vm, vo] 39)).alloc (.cells #[.string id] 9)) := belowNew (belowNew (Below.refl _ _) _) _
  have HM : Hid (MemsAt ((w.alloc (.cells #[vm, vo] 39)).alloc (.cells #[.string id] 9)) vm cf.1) := hm.below hx
  have HO : Hid (MemsAt ((w.alloc (.cells #[vm, vo] 39)).alloc (.cells #[.string id] 9)) vo cf.2) := ho.below hx
  have HX : Hid (Below w.heap.size w ((w.alloc (.cells #[vm, vo] 39)).alloc (.cells #[.string id] 9))) := hx
  obtain ⟨am, nm, cm, hvm⟩ : ∃ a n c, vm = .slice a n c := by obtain ⟨a, c, h, _⟩ := hm; exact ⟨a, _, c, h⟩
  obtain ⟨ao, no, co, hvo⟩ : ∃ a n c, vo = .slice a n c := by obtain ⟨a, c, h, _⟩ := ho; exact ⟨a, _, c, h⟩
  subst hvm hvo
  clear hm ho hx
  cases h1 : hasId cf.1 id with
  | true =>
    have HR : Hid (hasCf cf id = true) := by show hasCf cf id = true; simp [hasCf, h1]
    go_enter Try.func17, Try.ntmps17
    go_wp2_with fail
    refine (contains_mem _ cf.1 id (w.heap.size + 1) _ HM.out (by simp) (by simp)).mono ?_
    rintro e w1 ⟨rfl, hb1⟩
    rw [h1]
    go_wp2_with fail
    go_ret
    exact ⟨by rw [HR.out]; rfl, belowOn HX.out hb1⟩
  | false =>
    have HR : Hid (hasCf cf id = hasId cf.2 id) := by show hasCf cf id = hasId cf.2 id; simp [hasCf, h1]
    go_enter Try.func17, Try.ntmps17
    go_wp2_with fail
    refine (contains_mem _ cf.1 id (w.heap.size + 1) _ HM.out (by simp) (by simp)).mono ?_
    rintro e w1 ⟨rfl, hb1⟩
    rw [h1]
    have q1 : w1.cell? ⟨w.heap.size, 1, none⟩ = some (.slice ao no co) := by rw [hb1.cell (by simp; omega)]; go_simp
    have q2 : w1.cell? ⟨w.heap.size + 1, 0, none⟩ = some (.string id) := by rw [hb1.cell (by simp)]; go_simp
    have hz : w.heap.size + 1 < w1.heap.size := by have := hb1.size; simp at this; omega
    go_wp2_with fail
    refine (contains_mem _ cf.2 id (w.heap.size + 1) _ (HO.out.below hb1) hz q2).mono ?_
    rintro e w2 ⟨rfl, hb2⟩
    go_wp2_with fail
    go_ret
    exact ⟨by rw [HR.out]; rfl, belowOn (belowOn HX.out hb1) hb2⟩

/-- The closure of includes, over configurations. -/
theorem has_cf (ix : Int) (vm vo : Value) (rs : Bool) (cf : List ByteArray × List ByteArray) (id : ByteArray) (bid : Nat) (w : World) (hm : MemsAt w vm cf.1) (ho : MemsAt w vo cf.2) (hb : bid < w.heap.size) (hid : w.cell? ⟨bid, 0, none⟩ = some (.string id)) :
    Calls Try.prog 16 #[.agg #[.int .u64 ix, vm, vo, .bool rs], .pointer (some ⟨bid, 0, none⟩)] w fun e w' => e = .returned (.bool (hasCf cf id)) ∧ Below w.heap.size w w' := by
  have hx : Below w.heap.size w (w.alloc (.cells #[.int .u64 ix, vm, vo, .bool rs] 41)) := belowNew (Below.refl _ _) _
  have HM : Hid (MemsAt (w.alloc (.cells #[.int .u64 ix, vm, vo, .bool rs] 41)) vm cf.1) := hm.below hx
  have HO : Hid (MemsAt (w.alloc (.cells #[.int .u64 ix, vm, vo, .bool rs] 41)) vo cf.2) := ho.below hx
  have HX : Hid (Below w.heap.size w (w.alloc (.cells #[.int .u64 ix, vm, vo, .bool rs] 41))) := hx
  obtain ⟨am, nm, cm, hvm⟩ : ∃ a n c, vm = .slice a n c := by obtain ⟨a, c, h, _⟩ := hm; exact ⟨a, _, c, h⟩
  obtain ⟨ao, no, co, hvo⟩ : ∃ a n c, vo = .slice a n c := by obtain ⟨a, c, h, _⟩ := ho; exact ⟨a, _, c, h⟩
  subst hvm hvo
  clear hm ho hx
  go_enter Try.func16, Try.ntmps16
  go_wp2_with fail
  refine (cf_includes _ _ cf id _ HM.out HO.out).mono ?_
  rintro e w1 ⟨rfl, hb1⟩
  go_wp2_with fail
  go_ret
  exact ⟨rfl, belowOn HX.out hb1⟩

/-- Is the id in one of the configurations? -/
def hasAny (cs : List (List ByteArray × List ByteArray)) (id : ByteArray) : Bool := cs.any fun cf => hasCf cf id
theorem hasAny_no (cs : List (List ByteArray × List ByteArray)) (id : ByteArray) (h : ∀ j, j < cs.length → hasCf (cfAt cs j) id = false) : hasAny cs id = false := by
  rw [hasAny, List.any_eq_false]
  intro m hm
  obtain ⟨j, hj, rfl⟩ := List.getElem_of_mem hm
  have := h j hj
  rw [cfAt, List.getD_eq_getElem?_getD, List.getElem?_eq_getElem hj] at this
  simpa using this
theorem hasAny_yes (cs : List (List ByteArray × List ByteArray)) (id : ByteArray) (k : Nat) (hk : k < cs.length) (h : hasCf (cfAt cs k) id = true) : hasAny cs id = true := by
  rw [hasAny, List.any_eq_true]
  rw [cfAt, List.getD_eq_getElem?_getD, List.getElem?_eq_getElem hk] at h
  exact ⟨cs[k], List.getElem_mem hk, h⟩

set_option maxHeartbeats 800000 in
/-- slices.IndexFunc over configurations. -/
theorem index_cf (v : Value) (cs : List (List ByteArray × List ByteArray)) (id : ByteArray) (bid : Nat) (w : World) (hm : ConfsAt w v cs) (hb : bid < w.heap.size) (hid : w.cell? ⟨bid, 0, none⟩ = some (.string id)) :
    Calls Try.prog 18 #[v, .func (.func 16) #[] #[.pointer (some ⟨bid, 0, none⟩)]] w fun e w' => (∃ r : Int, e = .returned (.int .i64 r) ∧ decide (0 ≤ r) = hasAny cs id) ∧ Below w.heap.size w w' := by
  obtain ⟨a, c, rfl, hn, hc⟩ := hm
  rcases hc with hc | ⟨b, o, rfl, hlt, hc⟩
  · have hno := hasAny_no cs id (fun j hj => by omega)
    have HN : Hid (hasAny cs id = false) := hno
    clear hno
    have hc0 : (cs.length : Int) = 0 := by omega
    go_enter Try.func18, Try.ntmps18
    go_wp2
    refine wp_loop_rounds 1 ?_
    rw [rounds_succ]
    go_wp2
    go_ret
    exact ⟨⟨_, rfl, by rw [HN.out]; decide⟩, Below.refl _ _⟩
  · have HC : Hid (∀ i, i < cs.length → ∃ (ix : Int) (vm vo : Value) (rs : Bool), w.cell? ⟨b, o + i * 4, none⟩ = some (.int .u64 ix) ∧ w.cell? ⟨b, o + i * 4 + 1, none⟩ = some vm ∧
        w.cell? ⟨b, o + i * 4 + 2, none⟩ = some vo ∧ w.cell? ⟨b, o + i * 4 + 3, none⟩ = some (.bool rs) ∧ MemsAt w vm (cfAt cs i).1 ∧ MemsAt w vo (cfAt cs i).2) := hc
    clear hc
    go_enter Try.func18, Try.ntmps18
    go_wp2
    go_loopw [8] (fun i wr => ∃ k : Nat, k ≤ cs.length ∧ i = .int .i64 k ∧ Below w.heap.size w wr ∧ Hid (∀ j, j < k → hasCf (cfAt cs j) id = false)) (fun i _ => cs.length - (intOf i).toNat)
    case atStart => exact ⟨0, Nat.zero_le _, rfl, Below.refl _ _, fun j hj => absurd hj (Nat.not_lt_zero _)⟩
    case round =>
      obtain ⟨k, hk, rfl, hbel, HP⟩ := hrel
      by_cases hlk : k < cs.length
      · obtain ⟨ix, vm, vo, rs, c0, c1, c2, c3, hm, ho⟩ := HC.out k hlk
        obtain ⟨am, nm, cm, hvm⟩ : ∃ a n c, vm = .slice a n c := by obtain ⟨a, c, h, _⟩ := hm; exact ⟨a, _, c, h⟩
        obtain ⟨ao, no, co, hvo⟩ : ∃ a n c, vo = .slice a n c := by obtain ⟨a, c, h, _⟩ := ho; exact ⟨a, _, c, h⟩
        subst hvm hvo
        have d0 := (hbel.cell (p := ⟨b, o + k * 4, none⟩) hlt).trans c0
        have d1 := (hbel.cell (p := ⟨b, o + k * 4 + 1, none⟩) hlt).trans c1
        have d2 := (hbel.cell (p := ⟨b, o + k * 4 + 2, none⟩) hlt).trans c2
        have d3 := (hbel.cell (p := ⟨b, o + k * 4 + 3, none⟩) hlt).trans c3
        have d4 := (hbel.cell (p := ⟨bid, 0, none⟩) hb).trans hid
        have hz : bid < wr.heap.size := Nat.lt_of_lt_of_le hb hbel.size
        have HM := hm.below hbel
        have HO := ho.below hbel
        clear c0 c1 c2 c3 hm ho
        cases he : hasCf (cfAt cs k) id with
        | true =>
          go_wp2_with (go_at_call 16; refine (has_cf _ _ _ _ (cfAt cs k) id _ _ HM HO hz d4).mono ?_; rw [he]; rintro e w1 ⟨rfl, hb1⟩)
          go_ret
          refine ⟨⟨_, rfl, ?_⟩, belowOn hbel hb1⟩
          rw [hasAny_yes cs id k hlk he]
          simp
        | false =>
          go_wp2_with (go_at_call 16; refine (has_cf _ _ _ _ (cfAt cs k) id _ _ HM HO hz d4).mono ?_; rw [he]; rintro e w1 ⟨rfl, hb1⟩)
          go_roundw
          case rel =>
            refine ⟨k + 1, by omega, by go_num, belowOn hbel hb1, fun j hj => ?_⟩
            rcases Nat.lt_succ_iff_lt_or_eq.1 hj with h | rfl
            · exact HP.out j h
            · exact he
          case measure => simp [intOf]; omega
      · go_wp2
        go_ret
        refine ⟨⟨_, rfl, ?_⟩, hbel⟩
        rw [hasAny_no cs id (fun j hj => HP.out j (by omega))]
        decide

/-- slices.ContainsFunc over configurations. -/
theorem contains_cf (v : Value) (cs : List (List ByteArray × List ByteArray)) (id : ByteArray) (bid : Nat) (w : World) (hm : ConfsAt w v cs) (hb : bid < w.heap.size) (hid : w.cell? ⟨bid, 0, none⟩ = some (.string id)) :
    Calls Try.prog 15 #[v, .func (.func 16) #[] #[.pointer (some ⟨bid, 0, none⟩)]] w fun e w' => e = .returned (.bool (hasAny cs id)) ∧ Below w.heap.size w w' := by
  go_enter Try.func15, Try.ntmps15
  go_wp2_with (go_at_call 18; refine (index_cf _ cs id bid _ hm hb hid).mono ?_; rintro e w1 ⟨⟨r, rfl, hr⟩, hb1⟩)
  go_ret
  exact ⟨rfl, hb1⟩

/-- ZZincludes, includes. -/
theorem includes_any (v : Value) (cs : List (List ByteArray × List ByteArray)) (id : ByteArray) (w : World) (hm : ConfsAt w v cs) :
    Calls Try.prog 6 #[v, .string id] w fun e w' => e = .returned (.bool (hasAny cs id)) ∧ Below w.heap.size w w' := by
  have hx : Below w.heap.size w (w.alloc (.cells #[.string id] 9)) := belowNew (Below.refl _ _) _
  have HM : Hid (ConfsAt (w.alloc (.cells #[.string id] 9)) v cs) := hm.below hx
  have HX : Hid (Below w.heap.size w (w.alloc (.cells #[.string id] 9))) := hx
  clear hm hx
  go_enter Try.func6, Try.ntmps6
  go_wp2_with (go_at_call 11; go_in)
  refine (contains_cf _ cs id w.heap.size _ HM.out (by simp) (by simp)).mono ?_
  rintro e w1 ⟨rfl, hb1⟩
  go_wp2_with fail
  go_ret
  exact ⟨rfl, belowOn HX.out hb1⟩

end Go.Proofs.Qxb6614468a.inc
