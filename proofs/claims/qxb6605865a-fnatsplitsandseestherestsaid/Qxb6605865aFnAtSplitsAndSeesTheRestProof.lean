/-
  The proof of the given statement: the walk is ours, the frame is the guide's template at this function.
-/
import Derived.Test.Qxb6605865aRows
import Derived.WalkKit
import Derived.ProofKit
import Derived.OpenShut
import Derived.ShutString
import Derived.WalkSpells
import Derived.Deep.RegionWith
import Derived.Test.Qxb6605865aAt
namespace Go.Proofs.Qxb6605865a.fnAtSplitsAndSeesTheRest
open Go.ChangeShapes Go.WideShapes Go.ChangeAt Go.RowKit
open Go.ChangeMaps (open_string shut_string)
set_option linter.unusedVariables false      -- a walk need not use every 'w<i>' (that an integer argument fits its kind)

theorem own : ownKnob Try.prog.godebug = none := by kernel_rfl

theorem byte_is {n : Int} (h : (Lit.int .u8 n).wf = true) : ∃ b : UInt8, n = (b.toNat : Int) := by
  have h' : 0 ≤ n ∧ n ≤ 255 := by
    simp [Lit.wf, IntKind.min, IntKind.max, IntKind.signed, IntKind.bits] at h
    omega
  exact ⟨UInt8.ofNat n.toNat, by simp; omega⟩

/-- 'string([]byte{b})'. -/
theorem conv_one (b : UInt8) (w : World) (g c : Nat) (h : w.cell? ⟨g, 0, none⟩ = some (.int .u8 (b.toNat : Int))) : (convert 25 9 (.slice (some ⟨g, 0, none⟩) 1 c)).run Try.prog w = .ok (.string ⟨#[b]⟩) w :=
  run_convert_bytes_back (P := Try.prog) w 25 9 5 ⟨g, 0, none⟩ c [b] Try.underlying25 Try.underlying5 Try.underlying9 (by
    intro j hj
    match j, hj with
    | 0, _ => simpa [Addr.add] using h)

/-! ### THE PLAIN LAW: the beginning of a text, in two halves -/
theorem rest_list (t : ByteArray) (p : Nat) : (t.extract p t.size).data.toList = t.data.toList.drop p := by
  rw [Lib.extract_data]
  exact List.take_of_length_le (by simp)

theorem room_of (t s : ByteArray) (p : Nat) (hp : p ≤ t.size) (h : at1.hasP (t.extract p t.size) (s.extract 0 (s.size / 2)) = true) : p + s.size / 2 ≤ t.size := by
  rw [at1.hasP, rest_list, Lib.extract_data, List.drop_zero, Nat.sub_zero, List.isPrefixOf_iff_prefix] at h
  have := h.length_le
  simp at this
  omega

theorem split_yes (t s : ByteArray) (p : Nat) (h : at1.hasP (t.extract p t.size) (s.extract 0 (s.size / 2)) = true) :
    at1.hasP (t.extract p t.size) s = at1.hasP (t.extract (p + s.size / 2) t.size) (s.extract (s.size / 2) s.size) := by
  rw [at1.hasP, rest_list, Lib.extract_data, List.drop_zero, Nat.sub_zero, List.isPrefixOf_iff_prefix] at h
  rw [at1.hasP, at1.hasP, rest_list, rest_list, rest_list, Bool.eq_iff_iff, List.isPrefixOf_iff_prefix, List.isPrefixOf_iff_prefix]
  obtain ⟨u, hu⟩ := h
  have hl : (s.data.toList.take (s.size / 2)).length = s.size / 2 := by simp; omega
  have e : t.data.toList.drop (p + s.size / 2) = u := by
    rw [← List.drop_drop, ← hu]
    exact List.drop_left' hl
  rw [e, ← hu]
  conv => lhs; lhs; rw [← List.take_append_drop (s.size / 2) s.data.toList]
  exact List.prefix_append_right_inj _

theorem split_no (t s : ByteArray) (p : Nat) (h : at1.hasP (t.extract p t.size) (s.extract 0 (s.size / 2)) = false) : at1.hasP (t.extract p t.size) s = false := by
  rw [at1.hasP, rest_list, Lib.extract_data, List.drop_zero, Nat.sub_zero, Bool.eq_false_iff] at h
  rw [at1.hasP, rest_list, Bool.eq_false_iff]
  intro h'
  exact h (List.isPrefixOf_iff_prefix.2 ((List.take_prefix _ _).trans (List.isPrefixOf_iff_prefix.1 h')))

theorem sees_rest (r : ByteArray) : at1.hasP r r = true := by
  rw [at1.hasP, List.isPrefixOf_iff_prefix]
  exact List.prefix_refl _

theorem not_longer (r : ByteArray) (b : UInt8) : at1.hasP r (r ++ ⟨#[b]⟩) = false := by
  rw [at1.hasP, Bool.eq_false_iff]
  intro h
  have := (List.isPrefixOf_iff_prefix.1 h).length_le
  rw [ByteArray.data_append] at this
  simp at this
  omega

/-- ZZnewParser. -/
theorem new_any (t : ByteArray) (n : Int) (w : World) : Calls Try.prog 5 #[.string t, .int .i64 n, .int .u8 0] w fun e w' => e = .returned (.pointer (some ⟨w.heap.size, 0, none⟩)) ∧
    w' = w.alloc (.cells #[.string t, .int .i64 n, .int .u8 0, .int .i64 0, .map none, .pointer none] 31) := by
  go_enter Try.func5, Try.ntmps5
  go_wp2
  go_ret
  exact ⟨rfl, rfl⟩

theorem at_int (b p : Nat) (q : Int) (hq : q = (p : Int)) (text s : ByteArray) (w : World) (hs : s.size ≤ maxLen) (ht : text.size ≤ maxLen) (hp : p ≤ text.size)
    (c0 : w.cell? ⟨b, 0, none⟩ = some (.string text)) (c1 : w.cell? ⟨b, 1, none⟩ = some (.int .i64 q)) :
    Calls Try.prog 6 #[.pointer (some ⟨b, 0, none⟩), .string s] w fun e w' => e = .returned (.bool (at1.hasP (text.extract p text.size) s)) ∧ ∃ n, w' = w.drewN n := by
  subst hq
  exact at1.at_any b p text s w hs ht hp c0 c1
theorem small_ext (s : ByteArray) (a b : Nat) (h : s.size ≤ maxLen) : (s.extract a b).size ≤ maxLen := by
  unfold maxLen at *
  simp
  omega

theorem grown_two (w : World) (c c' : Array Value) (t t' n : Nat) : Grown w (((w.alloc (.cells c t)).alloc (.cells c' t')).drewN n) := ((Grown.refl w).alloc c t).alloc c' t'

theorem small_longer (t : ByteArray) (p : Nat) (b : UInt8) (h : t.size ≤ 1048576) : (t.extract p t.size ++ (⟨#[b]⟩ : ByteArray)).size ≤ maxLen := by
  have e : (⟨#[b]⟩ : ByteArray).size = 1 := rfl
  rw [ByteArray.size_append, e]
  unfold maxLen
  simp
  omega

theorem grown_n {w w' : World} (n : Nat) (h : Grown w w') : Grown w (w'.drewN n) := h

/-! ### STEP 1: THE WALK: the Go text returns true. 'Grown w w'': the world has at most new blocks (Derived/RowKit3.lean). Part the cases AHEAD of 'go_enter' where a test parts the walk; take each callee by a contract of your own. -/
set_option maxHeartbeats 1600000 in
theorem walk (a0 : ByteArray) (a1 : Int) (a2 : ByteArray) (a3 : Int) (w0 : a0.size ≤ maxLen) (w1 : (Lit.int .i64 a1).wf = true) (w2 : a2.size ≤ maxLen) (w3 : (Lit.int .u8 a3).wf = true) (w : World) :
    Calls Try.prog 3 #[.string a0, .int .i64 a1, .string a2, .int .u8 a3] w fun e w' => e = .returned (.bool true) ∧ Grown w w' := by
  have w0' := w0
  have w2' := w2
  unfold maxLen at w0 w2
  by_cases c : a0.size + a2.size ≤ 1048576 ∧ 0 ≤ a1 ∧ a1 ≤ a0.size
  · obtain ⟨c0, c1, c2⟩ := c
    obtain ⟨p, rfl⟩ : ∃ p : Nat, a1 = (p : Int) := ⟨a1.toNat, by omega⟩
    obtain ⟨b, rfl⟩ := byte_is w3
    have hcb := conv_one b
    have hrr := sees_rest (a0.extract p a0.size)
    have hrl := not_longer (a0.extract p a0.size) b
    cases hL : at1.hasP (a0.extract p a0.size) (a2.extract 0 (a2.size / 2)) with
    | false =>
      have hW := split_no a0 a2 p hL
      go_enter Try.func3, Try.ntmps3
      go_wp2_with (first | (go_at_call 4; go_in) | (go_at_call 5; go_in))
      refine (at1.at_any _ p a0 _ _ ?_ w0' ?_ ?_ ?_).mono ?_
      · exact w2'
      · omega
      · simp
      · simp
      rintro e w1 ⟨rfl, n1, rfl⟩
      go_wp2_with (first | (go_at_call 4; go_in) | (go_at_call 5; go_in))
      refine (at1.at_any _ p a0 _ _ ?_ w0' ?_ ?_ ?_).mono ?_
      · unfold maxLen; simp; omega
      · omega
      · simp
      · simp
      rintro e w1 ⟨rfl, n2, rfl⟩
      go_wp2_with fail
      refine (at1.at_any _ p a0 _ _ ?_ w0' ?_ ?_ ?_).mono ?_
      · exact small_ext _ _ _ w0'
      · omega
      · simp
      · simp
      rintro e w1 ⟨rfl, n3, rfl⟩
      go_wp2_with fail
      refine (at1.at_any _ p a0 _ _ ?_ w0' ?_ ?_ ?_).mono ?_
      · exact small_longer _ _ _ (by omega)
      · omega
      · simp
      · simp
      rintro e w1 ⟨rfl, n4, rfl⟩
      go_wp2_with fail
      go_ret
      exact ⟨rfl, grown_two _ _ _ _ _ _⟩
    | true =>
      have hW := split_yes a0 a2 p hL
      have hR := room_of a0 a2 p (by omega) hL
      go_enter Try.func3, Try.ntmps3
      go_wp2_with (first | (go_at_call 4; go_in) | (go_at_call 5; go_in))
      refine (at1.at_any _ p a0 _ _ ?_ w0' ?_ ?_ ?_).mono ?_
      · exact w2'
      · omega
      · simp
      · simp
      rintro e w1 ⟨rfl, n1, rfl⟩
      go_wp2_with (first | (go_at_call 4; go_in) | (go_at_call 5; go_in))
      refine (at1.at_any _ p a0 _ _ ?_ w0' ?_ ?_ ?_).mono ?_
      · unfold maxLen; simp; omega
      · omega
      · simp
      · simp
      rintro e w1 ⟨rfl, n2, rfl⟩
      go_wp2_with fail
      go_region_with (first | (go_at_call 5; refine (new_any _ _ _).mono ?_; rintro e w' ⟨rfl, rfl⟩) | (go_at_call 6; refine (at_int _ (p + a2.size / 2) ((p : Int) + (a2.size : Int) / 2) (by omega) a0 _ _ (small_ext _ _ _ w2') w0' hR (by go_simp) (by go_simp)).mono ?_; rintro e w' ⟨rfl, n3, rfl⟩))
      all_goals
        go_wp2_with fail
        refine (at1.at_any _ p a0 _ _ ?_ w0' ?_ ?_ ?_).mono ?_
        · exact small_ext _ _ _ w0'
        · omega
        · go_simp
        · go_simp
        rintro e w1 ⟨rfl, n4, rfl⟩
        go_wp2_with fail
        refine (at1.at_any _ p a0 _ _ ?_ w0' ?_ ?_ ?_).mono ?_
        · exact small_longer _ _ _ (by omega)
        · omega
        · go_simp
        · go_simp
        rintro e w1 ⟨rfl, n5, rfl⟩
        go_wp2_with fail
        go_ret
        exact ⟨rfl, by repeat (first | exact Grown.refl _ | apply Grown.drew | apply Grown.alloc | apply grown_n)⟩
  · go_enter Try.func3, Try.ntmps3
    go_wp2
    all_goals (go_ret; exact ⟨rfl, by repeat (first | exact Grown.refl _ | apply Grown.drew | apply Grown.alloc)⟩)

/-! ### THE ROW's STEP: WRITTEN OUT: LEAVE IT -/
set_option maxRecDepth 100000 in
theorem lifted (os : Os) (started : os.Started) (H : Type) (enc : TypeId × Value → H) :
    ReturnsInHanded {} Try.checked os 3 .any (Rows.fnAtSplitsAndSeesTheRestSpec.pre6 enc Try.prog Try.f3 Rows.fnAtSplitsAndSeesTheRestRow.domain false) (Rows.fnAtSplitsAndSeesTheRestSpec.post enc Try.prog Try.f3 false true false false) := by
  refine returnsInHanded_of_change (C := Try.checked) own started (by kernel_rfl) Try.func3
    (ChangeSpec.witness6 (enc := enc) (C := Try.checked) false ⟨#[], #[.string ByteArray.empty, .int .i64 0, .string ByteArray.empty, .int .u8 0], []⟩ 8 (by kernel_rfl) (by kernel_rfl) (by kernel_rfl) (by kernel_rfl)) ?_
  intro W base args ds gs before hval0 hW hcnd _
  have hval : ∀ (j : Nat) t v, Try.f3.params[j]? = some t → args[j]? = some v → Value.okWide Try.prog W .any base t v := hval0
  have hW' := hW
  obtain ⟨p, q, hA0, hV, rfl, hfz, hnd⟩ := hW
  have hA : DataW.TrodAll enc Try.prog W 0 (fun _ => true) true Try.f3.params.toList args.toList ds p := hA0
  rw [Try.params3] at hA hval
  obtain ⟨v0, vs0, d0, ds0, p0, q0, hargs, rfl, rfl, h0, r0⟩ := trodAll_cons hA
  obtain ⟨v1, vs1, d1, ds1, p1, q1, rfl, rfl, rfl, h1, r1⟩ := trodAll_cons r0
  obtain ⟨v2, vs2, d2, ds2, p2, q2, rfl, rfl, rfl, h2, r2⟩ := trodAll_cons r1
  obtain ⟨v3, vs3, d3, ds3, p3, q3, rfl, rfl, rfl, h3, r3⟩ := trodAll_cons r2
  obtain ⟨rfl, rfl, rfl⟩ := trodAll_nil r3
  obtain rfl : args = #[v0, v1, v2, v3] := by cases args; simp_all
  obtain ⟨rfl, rfl⟩ := trodVars_none hV
  obtain ⟨a0, rfl, rfl, rfl, w0⟩ := open_string Try.underlying9 (hval 0 9 v0 rfl rfl) h0
  obtain ⟨a1, rfl, rfl, rfl, w1⟩ := open_int Try.underlying3 (hval 1 3 v1 rfl rfl) h1
  obtain ⟨a2, rfl, rfl, rfl, w2⟩ := open_string Try.underlying9 (hval 2 9 v2 rfl rfl) h2
  obtain ⟨a3, rfl, rfl, rfl, w3⟩ := open_int Try.underlying5 (hval 3 5 v3 rfl rfl) h3
  clear hA0 hval0
  simp only [List.append_nil] at hW'
  refine (walk a0 a1 a2 a3 w0 w1 w2 w3 W).mono fun e W' ⟨he, hg⟩ => ?_
  subst he
  exact ⟨_, rfl, post_of_same (pa := []) (pv := []) hW' (fun _ _ _ => (trodAll_cons_mk (shut_bool Try.underlying4 _) trodAll_mk0)) (fun sp _ => (trodAll_cons_mk (shut_string Try.underlying9 w0) (trodAll_cons_mk (shut_int Try.underlying3 w1) (trodAll_cons_mk (shut_string Try.underlying9 w2) (trodAll_cons_mk (shut_int Try.underlying5 w3) trodAll_mk0))))) (fun _ _ => rfl) rfl
    (hg.frame _) hg.2.1 (ok_one (by kernel_rfl) rfl (okWide_bool_mk Try.underlying4 _))⟩

theorem over : Rows.fnAtSplitsAndSeesTheRestRow.holds Try.pinned (OpenSpec.ofChange Rows.fnAtSplitsAndSeesTheRestSpec) :=
  OpenClaim.holds_of_wide 3 Try.f3 rfl rfl rfl rfl rfl rfl rfl ⟨rfl, rfl, rfl, rfl, rfl⟩ rfl rfl rfl rfl rfl (by kernel_rfl) Try.func3 (by kernel_rfl)
    (of_decide_eq_true (by kernel_rfl)) (by unfold Func.isWrapper; first | (rw [if_pos (by decide +kernel)]; kernel_rfl) | (rw [if_neg (by decide +kernel)]; exact ⟨rfl, rfl⟩))
    (fun os started H enc _ => lifted os started H enc)

/-- ████ THE STATEMENT ████ -/
theorem proved : Rows.FnAtSplitsAndSeesTheRestSaid :=
  over
end Go.Proofs.Qxb6605865a.fnAtSplitsAndSeesTheRest
