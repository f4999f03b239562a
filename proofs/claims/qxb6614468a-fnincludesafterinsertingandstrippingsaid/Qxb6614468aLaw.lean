/-
  The law out of the contracts.
-/
import Derived.Test.Qxb6614468aIncl
import Derived.Test.Qxb6614468aInsert
import Derived.Test.Qxb6614468aBytes2
namespace Go.Proofs.Qxb6614468a.inc
open Go.RowKit Go.Deep
set_option linter.unusedVariables false

/-! ### the plain law -/
theorem hasId_self (id : ByteArray) : hasId [id] id = true := by simp [hasId]
theorem hasId_strip (ms : List ByteArray) (id : ByteArray) : hasId (strip ms id) id = false := by
  rw [hasId, List.any_eq_false]
  intro m hm
  have := (List.mem_filter.1 hm).2
  simpa using this
theorem any_left (cs : List (List ByteArray × List ByteArray)) (p : Nat) (id : ByteArray) (hp : p ≤ cs.length) : hasAny (ins cs p ([], [id])) id = true :=
  hasAny_yes _ id p (by rw [ins_len _ _ _ hp]; omega) (by rw [ins_at _ _ _ hp, hasCf, hasId_self]; simp)
theorem any_joined (cs : List (List ByteArray × List ByteArray)) (p : Nat) (id : ByteArray) (hp : p ≤ cs.length) : hasAny (ins cs p ([id], [])) id = true :=
  hasAny_yes _ id p (by rw [ins_len _ _ _ hp]; omega) (by rw [ins_at _ _ _ hp, hasCf, hasId_self]; simp)
theorem any_gone (cs : List (List ByteArray × List ByteArray)) (id : ByteArray) : hasAny (stripAll cs id) id = false :=
  hasAny_no _ id fun j hj => by
    rw [stripAll_len] at hj
    rw [stripAll_at _ _ _ hj, hasCf, hasId_strip, hasId_strip]
    rfl

/-! ### the bounds -/
theorem lens_ins (cs : List (List ByteArray × List ByteArray)) (p : Nat) (cf : List ByteArray × List ByteArray) (hp : p ≤ cs.length) (h : Lens cs cs.length) (hc : cf.1.length ≤ 1 ∧ cf.2.length ≤ 1) :
    ∀ i, i < (ins cs p cf).length → (cfAt (ins cs p cf) i).1.length ≤ 1048577 ∧ (cfAt (ins cs p cf) i).2.length ≤ 1048577 := by
  intro i hi
  rw [ins_len _ _ _ hp] at hi
  rcases Nat.lt_trichotomy i p with h1 | rfl | h1
  · rw [ins_lo _ _ _ _ hp h1]
    have := h i (by omega)
    omega
  · rw [ins_at _ _ _ hp]
    omega
  · obtain ⟨j, rfl⟩ : ∃ j, i = j + 1 := ⟨i - 1, by omega⟩
    rw [ins_hi _ _ _ _ (by omega) (by omega)]
    have := h j (by omega)
    omega
theorem lens_strip (cs : List (List ByteArray × List ByteArray)) (id : ByteArray) (h : Lens cs cs.length) : Lens (stripAll cs id) (stripAll cs id).length := by
  intro i hi
  rw [stripAll_len] at hi
  rw [stripAll_at _ _ _ hi]
  have h1 := strip_le (cfAt cs i).1 id
  have h2 := strip_le (cfAt cs i).2 id
  have := h i hi
  show (strip (cfAt cs i).1 id).length ≤ _ ∧ (strip (cfAt cs i).2 id).length ≤ _
  omega
theorem lens_more {cs : List (List ByteArray × List ByteArray)} (h : Lens cs cs.length) : ∀ i, i < cs.length → (cfAt cs i).1.length ≤ 1048577 ∧ (cfAt cs i).2.length ≤ 1048577 := by
  intro i hi
  have := h i hi
  omega

theorem mems_none (w : World) : MemsAt w (.slice none 0 0) [] := ⟨none, 0, rfl, by simp, Or.inl rfl⟩
theorem mems_one (w : World) (id addr : ByteArray) : MemsAt (w.alloc (.cells #[.string id, .string addr] 27)) (.slice (some ⟨w.heap.size, 0, none⟩) 1 1) [id] := by
  refine ⟨_, _, rfl, by simp, Or.inr ⟨w.heap.size, 0, rfl, by simp, fun j hj => ?_⟩⟩
  obtain rfl : j = 0 := by simp at hj; omega
  refine ⟨?_, addr, ?_⟩
  · rw [World.cell?_alloc_at (hn := rfl)]; rfl
  · rw [World.cell?_alloc_at (hn := rfl)]; rfl

set_option maxRecDepth 100000 in
set_option maxHeartbeats 6400000 in
/-- The ways on which the law asks nothing. -/
theorem law_none (v : Value) (cs : List (List ByteArray × List ByteArray)) (id addr : ByteArray) (p ix : Int) (rs : Bool) (w : World) (hc : ConfsAt w v cs) (h1 : id.size ≤ maxLen) (h2 : addr.size ≤ maxLen) (hp : ¬ (0 ≤ p ∧ p ≤ cs.length)) :
    Calls Try.prog 3 #[v, .string id, .int .i64 p, .string addr, .int .u64 ix, .bool rs] w fun e w' => e = .returned (.bool true) ∧ Below w.heap.size w w' := by
  have HC : Hid (ConfsAt w v cs) := hc
  obtain ⟨a, c, rfl, hn, _⟩ := hc
  go_enter Try.func3, Try.ntmps3
  go_wp2_with fail
  refine (bytes4_any _ cs id addr p ix rs _ HC.out).mono ?_
  rintro e w1 ⟨⟨r4, rfl⟩, rfl⟩
  cases r4 with
  | false =>
    go_wp2_with fail
    go_ret
    exact ⟨rfl, Below.refl _ _⟩
  | true =>
    go_wp2_with fail
    refine (bytesOK_any _ cs id addr _ HC.out h1 h2).mono ?_
    rintro e w2 ⟨⟨r5, rfl, hl5⟩, rfl⟩
    cases r5 with
    | false =>
      go_wp2_with fail
      go_ret
      exact ⟨rfl, Below.refl _ _⟩
    | true =>
      clear hl5
      by_cases hp0 : p < 0
      · go_wp2_with fail
        go_ret
        exact ⟨rfl, Below.refl _ _⟩
      · have hp1 : (cs.length : Int) < p := by omega
        go_wp2_with fail
        go_ret
        exact ⟨rfl, Below.refl _ _⟩

set_option maxRecDepth 100000 in
set_option maxHeartbeats 6400000 in
theorem law_main (v : Value) (cs : List (List ByteArray × List ByteArray)) (id addr : ByteArray) (p : Nat) (ix : Int) (rs : Bool) (w : World) (hc : ConfsAt w v cs) (h1 : id.size ≤ maxLen) (h2 : addr.size ≤ maxLen) (hp : p ≤ cs.length) :
    Calls Try.prog 3 #[v, .string id, .int .i64 p, .string addr, .int .u64 ix, .bool rs] w fun e w' => e = .returned (.bool true) ∧ Below w.heap.size w w' := by
  have HC : Hid (ConfsAt w v cs) := hc
  obtain ⟨a, c, rfl, hn, _⟩ := hc
  go_enter Try.func3, Try.ntmps3
  go_wp2_with fail
  refine (bytes4_any _ cs id addr p ix rs _ HC.out).mono ?_
  rintro e w1 ⟨⟨r4, rfl⟩, rfl⟩
  cases r4 with
  | false =>
    go_wp2_with fail
    go_ret
    exact ⟨rfl, Below.refl _ _⟩
  | true =>
    go_wp2_with fail
    refine (bytesOK_any _ cs id addr _ HC.out h1 h2).mono ?_
    rintro e w2 ⟨⟨r5, rfl, hl5⟩, rfl⟩
    cases r5 with
    | false =>
      go_wp2_with fail
      go_ret
      exact ⟨rfl, Below.refl _ _⟩
    | true =>
      obtain ⟨hlen, hl⟩ := hl5 rfl
      have HL : Hid (Lens cs cs.length) := hl
      clear hl hl5 h1 h2
      go_wp2_with fail
      refine (insert_any _ cs p ix none 0 0 (some ⟨w2.heap.size, 0, none⟩) 1 1 rs ([], [id]) _ ?_ ?_ ?_ hp hlen).mono ?_
      · exact HC.out.below (belowNew (belowNew (Below.refl _ _) _) _)
      · exact mems_none _
      · exact (mems_one w2 id addr).below (belowNew (Below.refl _ _) _)
      rintro e w3 ⟨⟨a1, n1, q1, rfl, hc1⟩, hb1⟩
      have B1 : Hid (Below w2.heap.size w2 w3) := belowOn (belowNew (belowNew (Below.refl _ _) _) _) hb1
      have C1 : Hid (ConfsAt w3 (.slice a1 n1 q1) (ins cs p ([], [id]))) := hc1
      clear hb1 hc1
      go_wp2_with fail
      refine (confs_any _ (ins cs p ([], [id])) _ C1.out ?_ ?_).mono ?_
      · rw [ins_len _ _ _ hp]; omega
      · exact lens_ins cs p _ hp HL.out (by simp)
      rintro e w4 ⟨⟨a2, n2, q2, rfl, hc2⟩, hb2⟩
      have B2 : Hid (Below w2.heap.size w2 w4) := belowOn B1.out hb2
      have C2 : Hid (ConfsAt w4 (.slice a2 n2 q2) (ins cs p ([], [id]))) := hc2
      clear hb2 hc2 C1 B1
      go_wp2_with fail
      refine (includes_any _ (ins cs p ([], [id])) id _ C2.out).mono ?_
      rw [any_left cs p id hp]
      rintro e w5 ⟨rfl, hb3⟩
      have B3 : Hid (Below w2.heap.size w2 w5) := belowOn B2.out hb3
      clear hb3 C2 B2
      go_wp2_with fail
      refine (stripAll_any _ cs id _ (HC.out.below B3.out) (by omega) (lens_more HL.out)).mono ?_
      rintro e w6 ⟨⟨a3, n3, q3, rfl, hc3⟩, hb4⟩
      have B4 : Hid (Below w2.heap.size w2 w6) := belowOn B3.out hb4
      have C3 : Hid (ConfsAt w6 (.slice a3 n3 q3) (stripAll cs id)) := hc3
      clear hb4 hc3 B3
      go_wp2_with fail
      refine (confs_any _ (stripAll cs id) _ C3.out ?_ ?_).mono ?_
      · rw [stripAll_len]; omega
      · exact lens_more (lens_strip cs id HL.out)
      rintro e w7 ⟨⟨a4, n4, q4, rfl, hc4⟩, hb5⟩
      have B5 : Hid (Below w6.heap.size w6 w7) := hb5
      have C4 : Hid (ConfsAt w7 (.slice a4 n4 q4) (stripAll cs id)) := hc4
      clear hb5 hc4
      go_wp2_with fail
      refine (includes_any _ (stripAll cs id) id _ C4.out).mono ?_
      rw [any_gone cs id]
      rintro e w8 ⟨rfl, hb6⟩
      have B6 : Hid (Below w6.heap.size w6 w8) := belowOn B5.out hb6
      clear hb6 C4 B5
      go_wp2_with fail
      refine (insert_any _ (stripAll cs id) p ix (some ⟨w8.heap.size, 0, none⟩) 1 1 none 0 0 rs ([id], []) _ ?_ ?_ ?_ ?_ ?_).mono ?_
      · exact C3.out.below (belowNew (belowNew B6.out _) _)
      · exact (mems_one w8 id addr).below (belowNew (Below.refl _ _) _)
      · exact mems_none _
      · rw [stripAll_len]; exact hp
      · rw [stripAll_len]; exact hlen
      rintro e w9 ⟨⟨a5, n5, q5, rfl, hc5⟩, hb7⟩
      have B7 : Hid (Below w6.heap.size w6 w9) := belowOn (belowNew (belowNew B6.out _) _) hb7
      have C5 : Hid (ConfsAt w9 (.slice a5 n5 q5) (ins (stripAll cs id) p ([id], []))) := hc5
      clear hb7 hc5 B6
      have hps : p ≤ (stripAll cs id).length := by rw [stripAll_len]; exact hp
      have HPS : Hid (p ≤ (stripAll cs id).length) := hps
      clear hps
      go_wp2_with fail
      refine (confs_any _ (ins (stripAll cs id) p ([id], [])) _ C5.out ?_ ?_).mono ?_
      · rw [ins_len _ _ _ HPS.out, stripAll_len]; omega
      · exact lens_ins _ p _ HPS.out (lens_strip cs id HL.out) (by simp)
      rintro e w10 ⟨⟨a6, n6, q6, rfl, hc6⟩, hb8⟩
      have B8 : Hid (Below w6.heap.size w6 w10) := belowOn B7.out hb8
      have C6 : Hid (ConfsAt w10 (.slice a6 n6 q6) (ins (stripAll cs id) p ([id], []))) := hc6
      clear hb8 hc6 C5 B7
      go_wp2_with fail
      refine (includes_any _ (ins (stripAll cs id) p ([id], [])) id _ C6.out).mono ?_
      rw [any_joined (stripAll cs id) p id HPS.out]
      rintro e w11 ⟨rfl, hb9⟩
      have B9 : Hid (Below w2.heap.size w2 w11) := belowOn B4.out (belowOn B8.out hb9)
      clear hb9 C6 B8
      go_wp2_with fail
      go_ret
      exact ⟨rfl, B9.out⟩

end Go.Proofs.Qxb6614468a.inc
