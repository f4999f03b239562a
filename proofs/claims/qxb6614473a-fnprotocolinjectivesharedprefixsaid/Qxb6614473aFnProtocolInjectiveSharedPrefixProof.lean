/-
  The proof of the given statement: the walk is ours, the frame is the guide's template at this function.
-/
import Derived.Test.Qxb6614473aRows
import Derived.WalkKit
import Derived.ProofKit
import Derived.OpenShut
import Derived.ShutString
import Derived.WalkSpells
import Derived.Lib.Strings
import Derived.Deep.QuietTactic
import Derived.BigQuiet
namespace Go.Proofs.Qxb6614473a.fnProtocolInjectiveSharedPrefix
open Go.ChangeShapes Go.WideShapes Go.ChangeAt Go.RowKit
open Go.ChangeMaps (open_string shut_string)
set_option linter.unusedVariables false      -- a walk need not use every 'w<i>' (that an integer argument fits its kind)

theorem own : ownKnob Try.prog.godebug = none := by kernel_rfl

/-! ### THE PLAIN LAW: a text behind a tag of seven bytes -/
theorem tag_rest (x : ByteArray) : (({ data := #[114, 97, 100, 105, 117, 115, 47] } : ByteArray) ++ x).extract 7 (7 + x.size) = x := by
  apply bytes_inj
  rw [Lib.extract_data, ByteArray.data_append, Array.toList_append]
  show (x.data.toList).take (7 + x.size - 7) = x.data.toList
  rw [Nat.add_sub_cancel_left]
  exact List.take_of_length_le (by rw [Array.length_toList]; exact Nat.le_refl _)
theorem tag_head (x : ByteArray) : (({ data := #[114, 97, 100, 105, 117, 115, 47] } : ByteArray) ++ x).extract 0 7 = ({ data := #[114, 97, 100, 105, 117, 115, 47] } : ByteArray) := by
  apply bytes_inj
  rw [Lib.extract_data, ByteArray.data_append, Array.toList_append]
  rfl
theorem tag_same (x y : ByteArray) : ((({ data := #[114, 97, 100, 105, 117, 115, 47] } : ByteArray) ++ x).toList == (({ data := #[114, 97, 100, 105, 117, 115, 47] } : ByteArray) ++ y).toList) = (x.toList == y.toList) := by
  rw [ByteArray.toList_eq, ByteArray.toList_eq, ByteArray.toList_eq, ByteArray.toList_eq, ByteArray.data_append, ByteArray.data_append]
  rw [Bool.eq_iff_iff]
  simp
theorem grown_drewN (w : World) (n : Nat) : Grown w (w.drewN n) := Grown.refl w

/-! ### STEP 1: THE WALK: the Go text returns true. 'Grown w w'': the world has at most new blocks (Derived/RowKit3.lean). Part the cases AHEAD of 'go_enter' where a test parts the walk; take each callee by a contract of your own. -/
theorem walk (a0 : ByteArray) (a1 : ByteArray) (w0 : a0.size ≤ maxLen) (w1 : a1.size ≤ maxLen) (w : World) :
    Calls Try.prog 5 #[.string a0, .string a1] w fun e w' => e = .returned (.bool true) ∧ Grown w w' := by
  unfold maxLen at w0 w1
  by_cases c : a0.size ≤ 65536 ∧ a1.size ≤ 65536
  · obtain ⟨c0, c1⟩ := c
    have e1 := tag_rest a0
    have e2 := tag_rest a1
    have e3 := tag_head a0
    have e4 := tag_head a1
    go_enter Try.func5, Try.ntmps5
    go_wp2
    clear w0 w1
    go_quiet (fail)
    go_wp2
    go_ret
    exact ⟨by rw [tag_same]; simp, grown_drewN _ _⟩
  · go_enter Try.func5, Try.ntmps5
    go_wp2
    all_goals (go_ret; exact ⟨rfl, by repeat (first | exact Grown.refl _ | apply Grown.drew | apply Grown.alloc)⟩)

/-! ### THE ROW's STEP: WRITTEN OUT: LEAVE IT -/
set_option maxRecDepth 100000 in
theorem lifted (os : Os) (started : os.Started) (H : Type) (enc : TypeId × Value → H) :
    ReturnsInHanded {} Try.checked os 5 .any (Rows.fnProtocolInjectiveSharedPrefixSpec.pre6 enc Try.prog Try.f5 Rows.fnProtocolInjectiveSharedPrefixRow.domain false) (Rows.fnProtocolInjectiveSharedPrefixSpec.post enc Try.prog Try.f5 false true false false) := by
  refine returnsInHanded_of_change (C := Try.checked) own started (by kernel_rfl) Try.func5
    (ChangeSpec.witness6 (enc := enc) (C := Try.checked) false ⟨#[], #[.string ByteArray.empty, .string ByteArray.empty], []⟩ 8 (by kernel_rfl) (by kernel_rfl) (by kernel_rfl) (by kernel_rfl)) ?_
  intro W base args ds gs before hval0 hW hcnd _
  have hval : ∀ (j : Nat) t v, Try.f5.params[j]? = some t → args[j]? = some v → Value.okWide Try.prog W .any base t v := hval0
  have hW' := hW
  obtain ⟨p, q, hA0, hV, rfl, hfz, hnd⟩ := hW
  have hA : DataW.TrodAll enc Try.prog W 0 (fun _ => true) true Try.f5.params.toList args.toList ds p := hA0
  rw [Try.params5] at hA hval
  obtain ⟨v0, vs0, d0, ds0, p0, q0, hargs, rfl, rfl, h0, r0⟩ := trodAll_cons hA
  obtain ⟨v1, vs1, d1, ds1, p1, q1, rfl, rfl, rfl, h1, r1⟩ := trodAll_cons r0
  obtain ⟨rfl, rfl, rfl⟩ := trodAll_nil r1
  obtain rfl : args = #[v0, v1] := by cases args; simp_all
  obtain ⟨rfl, rfl⟩ := trodVars_none hV
  obtain ⟨a0, rfl, rfl, rfl, w0⟩ := open_string Try.underlying9 (hval 0 9 v0 rfl rfl) h0
  obtain ⟨a1, rfl, rfl, rfl, w1⟩ := open_string Try.underlying9 (hval 1 9 v1 rfl rfl) h1
  clear hA0 hval0
  simp only [List.append_nil] at hW'
  refine (walk a0 a1 w0 w1 W).mono fun e W' ⟨he, hg⟩ => ?_
  subst he
  exact ⟨_, rfl, post_of_same (pa := []) (pv := []) hW' (fun _ _ _ => (trodAll_cons_mk (shut_bool Try.underlying4 _) trodAll_mk0)) (fun sp _ => (trodAll_cons_mk (shut_string Try.underlying9 w0) (trodAll_cons_mk (shut_string Try.underlying9 w1) trodAll_mk0))) (fun _ _ => rfl) rfl
    (hg.frame _) hg.2.1 (ok_one (by kernel_rfl) rfl (okWide_bool_mk Try.underlying4 _))⟩

theorem over : Rows.fnProtocolInjectiveSharedPrefixRow.holds Try.pinned (OpenSpec.ofChange Rows.fnProtocolInjectiveSharedPrefixSpec) :=
  OpenClaim.holds_of_wide 5 Try.f5 rfl rfl rfl rfl rfl rfl rfl ⟨rfl, rfl, rfl, rfl, rfl⟩ rfl rfl rfl rfl rfl (by kernel_rfl) Try.func5 (by kernel_rfl)
    (of_decide_eq_true (by kernel_rfl)) (by unfold Func.isWrapper; first | (rw [if_pos (by decide +kernel)]; kernel_rfl) | (rw [if_neg (by decide +kernel)]; exact ⟨rfl, rfl⟩))
    (fun os started H enc _ => lifted os started H enc)

/-- ████ THE STATEMENT ████ -/
theorem proved : Rows.FnProtocolInjectiveSharedPrefixSaid :=
  over
end Go.Proofs.Qxb6614473a.fnProtocolInjectiveSharedPrefix
