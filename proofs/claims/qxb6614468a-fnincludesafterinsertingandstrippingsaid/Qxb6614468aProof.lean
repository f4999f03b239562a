/-
  The given statement: FnIncludesAfterInsertingAndStripping returns true whatever the input; the input reads as it did.
-/
import Derived.Test.Qxb6614468aOpen
import Derived.Test.Qxb6614468aLaw
import Derived.OpenShut
import Derived.ShutString
import Derived.Carry
namespace Go.Proofs.Qxb6614468a.inc
open Go.ChangeShapes Go.WideShapes Go.ChangeAt Go.RowKit
open Go.ChangeMaps (open_string shut_string)
set_option linter.unusedVariables false

theorem own : ownKnob Try.prog.godebug = none := by kernel_rfl
theorem laidOut : laidOutB Try.prog = true := by kernel_rfl

theorem walk (v : Value) (cs : List (List ByteArray × List ByteArray)) (id addr : ByteArray) (p ix : Int) (rs : Bool) (w : World) (hc : ConfsAt w v cs) (h1 : id.size ≤ maxLen) (h2 : addr.size ≤ maxLen) :
    Calls Try.prog 3 #[v, .string id, .int .i64 p, .string addr, .int .u64 ix, .bool rs] w fun e w' => e = .returned (.bool true) ∧ Below w.heap.size w w' := by
  by_cases hp : 0 ≤ p ∧ p ≤ cs.length
  · obtain ⟨n, rfl⟩ : ∃ n : Nat, p = (n : Int) := ⟨p.toNat, by omega⟩
    exact law_main v cs id addr n ix rs w hc h1 h2 (by omega)
  · exact law_none v cs id addr p ix rs w hc h1 h2 hp

set_option maxRecDepth 100000 in
theorem lifted (os : Os) (started : os.Started) (H : Type) (enc : TypeId × Value → H) :
    ReturnsInHanded {} Try.checked os 3 .any (Rows.fnIncludesAfterInsertingAndStrippingSpec.pre6 enc Try.prog Try.f3 Rows.fnIncludesAfterInsertingAndStrippingRow.domain false) (Rows.fnIncludesAfterInsertingAndStrippingSpec.post enc Try.prog Try.f3 false true false false) := by
  refine returnsInHanded_of_change (C := Try.checked) own started (by kernel_rfl) Try.func3
    (ChangeSpec.witness6 (enc := enc) (C := Try.checked) false ⟨#[], #[.slice none 0 0, .string ByteArray.empty, .int .i64 0, .string ByteArray.empty, .int .u64 0, .bool false], []⟩ 8 (by kernel_rfl) (by kernel_rfl) (by kernel_rfl) (by kernel_rfl)) ?_
  intro W base args ds gs before hval0 hW hcnd _
  have hval : ∀ (j : Nat) t v, Try.f3.params[j]? = some t → args[j]? = some v → Value.okWide Try.prog W .any base t v := hval0
  have hW' := hW
  obtain ⟨p, q, hA0, hV, rfl, hfz, hnd⟩ := hW
  have hA : DataW.TrodAll enc Try.prog W 0 (fun _ => true) true Try.f3.params.toList args.toList ds p := hA0
  rw [Try.params3] at hA hval
  obtain ⟨v0, vs0, d0, ds0, p0, q0, hargs, rfl, rfl, h0, r0⟩ := trodAll_cons hA
  obtain ⟨v1, vs1, d1, ds1, p1, q1, rfl, rfl, rfl, h1, r1⟩ := trodAll_cons r0
  obtain ⟨v2, vs2, d2, ds2, p2, q2, rfl, rfl, rfl, h2, r2⟩ := trodAll_cons r1
  obtain ⟨v3, vs3, d3, ds3, p3, q3, rfl, rfl, rfl, h3, r3⟩ := trodAll_cons r2
  obtain ⟨v4, vs4, d4, ds4, p4, q4, rfl, rfl, rfl, h4, r4⟩ := trodAll_cons r3
  obtain ⟨v5, vs5, d5, ds5, p5, q5, rfl, rfl, rfl, h5, r5⟩ := trodAll_cons r4
  obtain ⟨rfl, rfl, rfl⟩ := trodAll_nil r5
  obtain rfl : args = #[v0, v1, v2, v3, v4, v5] := by cases args; simp_all
  obtain ⟨rfl, rfl⟩ := trodVars_none hV
  obtain ⟨a0, len0, cap0, rfl⟩ := okWide_slice Try.underlying22 (hval 0 22 v0 rfl rfl)
  have k0 := h0
  have lt0 : ∀ x ∈ p0, x.block < W.heap.size := by obtain ⟨m, hm⟩ := k0; exact DataW.trod_lt m _ _ _ hm
  obtain ⟨cs, hcs⟩ : ∃ cs, ConfsAt W (.slice a0 len0 cap0) cs := by
    obtain ⟨fuel, hf⟩ := h0
    obtain ⟨v, cfs, hv, hc⟩ := open_confs hf
    simp [Value.cells] at hv
    exact ⟨cfs, by rw [hv]; exact hc⟩
  obtain ⟨id, rfl, rfl, rfl, wid⟩ := open_string Try.underlying9 (hval 1 9 v1 rfl rfl) h1
  obtain ⟨pp, rfl, rfl, rfl, wp⟩ := open_int Try.underlying3 (hval 2 3 v2 rfl rfl) h2
  obtain ⟨addr, rfl, rfl, rfl, wad⟩ := open_string Try.underlying9 (hval 3 9 v3 rfl rfl) h3
  obtain ⟨ix, rfl, rfl, rfl, wix⟩ := open_int Try.underlying23 (hval 4 23 v4 rfl rfl) h4
  obtain ⟨rs, rfl, rfl, rfl⟩ := open_bool Try.underlying4 (hval 5 4 v5 rfl rfl) h5
  clear hA0 hval0
  refine (walk (.slice a0 len0 cap0) cs id addr pp ix rs W hcs wid wad).mono fun e W' ⟨he, bel⟩ => ?_
  subst he
  exact ⟨_, rfl, _, _, _, [], _, [], hW', trodAll_mk1 (shut_bool Try.underlying4 _), (trodAll_cons_mk (Below.trod laidOut (by kernel_rfl) (of_decide_eq_true (by kernel_rfl)) k0 bel lt0) (trodAll_cons_mk (shut_string Try.underlying9 wid) (trodAll_cons_mk (shut_int Try.underlying3 wp) (trodAll_cons_mk (shut_string Try.underlying9 wad) (trodAll_cons_mk (shut_int Try.underlying23 wix) (trodAll_cons_mk (shut_bool Try.underlying4 rs) trodAll_mk0)))))), rfl, bel.frame _, fun h => by cases h⟩

theorem over : Rows.fnIncludesAfterInsertingAndStrippingRow.holds Try.pinned (OpenSpec.ofChange Rows.fnIncludesAfterInsertingAndStrippingSpec) :=
  OpenClaim.holds_of_wide 3 Try.f3 rfl rfl rfl rfl rfl rfl rfl ⟨rfl, rfl, rfl, rfl, rfl⟩ rfl rfl rfl rfl rfl (by kernel_rfl) Try.func3 (by kernel_rfl)
    (of_decide_eq_true (by kernel_rfl)) (by unfold Func.isWrapper; first | (rw [if_pos (by decide +kernel)]; kernel_rfl) | (rw [if_neg (by decide +kernel)]; exact ⟨rfl, rfl⟩))
    (fun os started H enc _ => lifted os started H enc)

/-- ████ THE STATEMENT ████ -/
theorem proved : Rows.FnIncludesAfterInsertingAndStrippingSaid :=
  over

end Go.Proofs.Qxb6614468a.inc
