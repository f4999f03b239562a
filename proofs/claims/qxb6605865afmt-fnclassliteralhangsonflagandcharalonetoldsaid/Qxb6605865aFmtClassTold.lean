/-
  The told card of FnClassLiteralHangsOnFlagAndCharAlone.
-/
import Derived.Test.Qxb6605865aFmtCards
import Derived.Test.Qxb6605865aFmtClassA
import Derived.Test.Qxb6605865aFmtClassB
import Derived.Test.Qxb6605865aFmtClassC
import Derived.ProofKit
import Derived.Stop.JoinedAt
import Derived.Stop.Texts
import Derived.Stop.JoinedTold
import Derived.SizedLaws
import Derived.SevenToldRow
import Derived.ShutString
import Derived.OpenShut
namespace Go.Proofs.Qxb6605865aFmt.cls
open Go.ChangeShapes Go.WideShapes Go.ChangeAt Go.RowKit Go.Kit
open Go.ChangeMaps (open_string shut_string)
open Go.Extern.Stop Go.Stop Go.Extern

theorem own : ownKnob Tryf.prog.godebug = none := by kernel_rfl

set_option maxHeartbeats 1600000 in
/-- The ways on which the law asks nothing. -/
theorem walk_none (text : ByteArray) (pos f ch st : Int) (be : Bool) (w : World) (hs : text.size ≤ 9223372036854775807)
    (h : ¬ (text.size ≤ 1048576 ∧ (0 ≤ pos ∧ pos ≤ text.size) ∧ (0 ≤ st ∧ st ≤ text.size) ∧ f < 128 ∧ (0 ≤ ch ∧ ch ≤ 1114111) ∧ (be = true → ch ≤ 255))) :
    Calls Tryf.prog 3 #[.string text, .int .i64 pos, .int .u8 f, .int .i32 ch, .bool be, .int .i64 st] w fun e w' => e = .returned (.bool true) ∧ Below w.heap.size w w' := by
  by_cases c0 : 1048576 < text.size
  · go_enter Tryf.func3, Tryf.ntmps3
    go_wp2
    go_ret
    exact ⟨rfl, Below.refl _ _⟩
  by_cases c1 : pos < 0
  · go_enter Tryf.func3, Tryf.ntmps3
    go_wp2
    go_ret
    exact ⟨rfl, Below.refl _ _⟩
  by_cases c2 : text.size < pos
  · go_enter Tryf.func3, Tryf.ntmps3
    go_wp2
    go_ret
    exact ⟨rfl, Below.refl _ _⟩
  by_cases c3 : st < 0
  · go_enter Tryf.func3, Tryf.ntmps3
    go_wp2
    go_ret
    exact ⟨rfl, Below.refl _ _⟩
  by_cases c4 : text.size < st
  · go_enter Tryf.func3, Tryf.ntmps3
    go_wp2
    go_ret
    exact ⟨rfl, Below.refl _ _⟩
  by_cases c5 : 128 ≤ f
  · go_enter Tryf.func3, Tryf.ntmps3
    go_wp2
    go_ret
    exact ⟨rfl, Below.refl _ _⟩
  by_cases c6 : ch < 0
  · go_enter Tryf.func3, Tryf.ntmps3
    go_wp2
    go_ret
    exact ⟨rfl, Below.refl _ _⟩
  by_cases c7 : 1114111 < ch
  · go_enter Tryf.func3, Tryf.ntmps3
    go_wp2
    go_ret
    exact ⟨rfl, Below.refl _ _⟩
  cases be with
  | false => exact absurd ⟨by omega, ⟨by omega, by omega⟩, ⟨by omega, by omega⟩, by omega, ⟨by omega, by omega⟩, by simp⟩ h
  | true =>
    have c8 : 255 < ch := by
      rcases Int.lt_or_le 255 ch with h' | h'
      · exact h'
      · exact absurd ⟨by omega, ⟨by omega, by omega⟩, ⟨by omega, by omega⟩, by omega, ⟨by omega, by omega⟩, fun _ => h'⟩ h
    clear h
    go_enter Tryf.func3, Tryf.ntmps3
    go_wp2
    go_ret
    exact ⟨rfl, Below.refl _ _⟩

theorem walk (F : Interp) (text : ByteArray) (pos f ch st : Int) (be : Bool) (w : World) (hF : F.answers w.tape) (hs : text.size ≤ maxLen) (hf : 0 ≤ f) :
    Calls Tryf.prog 3 #[.string text, .int .i64 pos, .int .u8 f, .int .i32 ch, .bool be, .int .i64 st] w fun e w' => e = .returned (.bool true) ∧ Below w.heap.size w w' := by
  unfold maxLen at hs
  by_cases h : text.size ≤ 1048576 ∧ (0 ≤ pos ∧ pos ≤ text.size) ∧ (0 ≤ st ∧ st ≤ text.size) ∧ f < 128 ∧ (0 ≤ ch ∧ ch ≤ 1114111) ∧ (be = true → ch ≤ 255)
  · obtain ⟨c0, ⟨c1, c2⟩, ⟨c3, c4⟩, c6, ⟨c7, c8⟩, c9⟩ := h
    cases hu : (bits BinOp.and IntKind.u8 f 16 != 0) with
    | true =>
      cases be with
      | false => exact lit.on_plain text pos st f ch w c0 c1 c2 c3 c4 hf c6 c7 c8 hu
      | true => exact lit.on_byte text pos st f ch w c0 c1 c2 c3 c4 hf c6 c7 (c9 rfl) hu
    | false =>
      by_cases hch : ch < 128
      · cases be with
        | false => exact lit.off_ascii_plain text pos st f ch w c0 c1 c2 c3 c4 hf c6 c7 c8 hu hch
        | true => exact lit.off_ascii_byte text pos st f ch w c0 c1 c2 c3 c4 hf c6 c7 (c9 rfl) hu hch
      · cases be with
        | false =>
          obtain ⟨p, rfl⟩ : ∃ p : Nat, pos = (p : Int) := ⟨pos.toNat, by omega⟩
          obtain ⟨s, rfl⟩ : ∃ s : Nat, st = (s : Int) := ⟨st.toNat, by omega⟩
          exact lit.off_high_plain F text p s f ch w hF c0 (by omega) (by omega) hf c6 c7 c8 hu hch
        | true => exact lit.off_high_byte text pos st f ch w c0 c1 c2 c3 c4 hf c6 c7 (c9 rfl) hu hch
  · exact walk_none text pos f ch st be w (by omega) h

set_option maxRecDepth 100000 in
theorem lifted (os : Os) (started : os.Started) (H : Type) (enc : TypeId × Value → H) :
    ReturnsInTold none {} Tryf.checked os 3 .any Input.okWide ((OpenSpec.ofChange Rows.fnClassLiteralHangsOnFlagAndCharAloneSpec).preRow enc Tryf.prog Tryf.f3 [] false []) (fun F => ((OpenSpec.ofChange Rows.fnClassLiteralHangsOnFlagAndCharAloneSpec).at F).post enc Tryf.prog Tryf.f3 false true false false) (aloneAtReturn Tryf.prog) nothingAlways := by
  refine returnsInTold_of_row (C := Tryf.checked) (s := OpenSpec.ofChange Rows.fnClassLiteralHangsOnFlagAndCharAloneSpec) (by kernel_rfl) own started (by kernel_rfl) Tryf.func3
    (OpenSpec.witness_stopped (enc := enc) (C := Tryf.checked) false ⟨#[], #[.string ⟨#[]⟩, .int .i64 0, .int .u8 0, .int .i32 0, .bool false, .int .i64 0], []⟩ 8 (by kernel_rfl) (by kernel_rfl) (by kernel_rfl) (by kernel_rfl)) ?_
  intro F W base args ds gs before _ hF hval0 hW _ _ _ _ _
  have hval : ∀ (j : Nat) t v, Tryf.f3.params[j]? = some t → args[j]? = some v → Value.okWide Tryf.prog W .any base t v := hval0
  have hW' := hW
  obtain ⟨p, q, hA0, hV, rfl, hfz, hnd⟩ := hW
  have hA : DataW.TrodAll enc Tryf.prog W 0 (fun _ => true) true Tryf.f3.params.toList args.toList ds p := hA0
  rw [Tryf.params3] at hA hval
  obtain ⟨v0, vs0, d0, ds0, p0, q0, hargs, rfl, rfl, h0, r0⟩ := trodAll_cons hA
  obtain ⟨v1, vs1, d1, ds1, p1, q1, rfl, rfl, rfl, h1, r1⟩ := trodAll_cons r0
  obtain ⟨v2, vs2, d2, ds2, p2, q2, rfl, rfl, rfl, h2, r2⟩ := trodAll_cons r1
  obtain ⟨v3, vs3, d3, ds3, p3, q3, rfl, rfl, rfl, h3, r3⟩ := trodAll_cons r2
  obtain ⟨v4, vs4, d4, ds4, p4, q4, rfl, rfl, rfl, h4, r4⟩ := trodAll_cons r3
  obtain ⟨v5, vs5, d5, ds5, p5, q5, rfl, rfl, rfl, h5, r5⟩ := trodAll_cons r4
  obtain ⟨rfl, rfl, rfl⟩ := trodAll_nil r5
  obtain rfl : args = #[v0, v1, v2, v3, v4, v5] := by cases args; simp_all
  obtain ⟨rfl, rfl⟩ := trodVars_none hV
  obtain ⟨text, rfl, rfl, rfl, wt⟩ := open_string Tryf.underlying9 (hval 0 9 v0 rfl rfl) h0
  obtain ⟨pos, rfl, rfl, rfl, wp⟩ := open_int Tryf.underlying3 (hval 1 3 v1 rfl rfl) h1
  obtain ⟨f, rfl, rfl, rfl, wf⟩ := open_int Tryf.underlying5 (hval 2 5 v2 rfl rfl) h2
  obtain ⟨ch, rfl, rfl, rfl, wc⟩ := open_int Tryf.underlying21 (hval 3 21 v3 rfl rfl) h3
  obtain ⟨be, rfl, rfl, rfl⟩ := open_bool Tryf.underlying4 (hval 4 4 v4 rfl rfl) h4
  obtain ⟨st, rfl, rfl, rfl, ws⟩ := open_int Tryf.underlying3 (hval 5 3 v5 rfl rfl) h5
  clear hA0 hval0
  simp only [List.append_nil] at hW'
  have hf : 0 ≤ f ∧ f ≤ 255 := by
    have := wf
    simp [Lit.wf, IntKind.min, IntKind.max, IntKind.signed, IntKind.bits] at this
    omega
  refine (walk F.told text pos f ch st be W hF wt hf.1).mono fun e W' ⟨he, hb⟩ => ?_
  subst he
  refine ⟨_, rfl, _, _, _, [], [], [], hW', ?_, ?_, rfl, hb.frame _, fun h => by cases h⟩
  · exact trodAll_mk1 (shut_bool Tryf.underlying4 _)
  · exact trodAll_cons_mk (shut_string Tryf.underlying9 wt) (trodAll_cons_mk (shut_int Tryf.underlying3 wp) (trodAll_cons_mk (shut_int Tryf.underlying5 wf) (trodAll_cons_mk (shut_int Tryf.underlying21 wc) (trodAll_cons_mk (shut_bool Tryf.underlying4 be) (trodAll_cons_mk (shut_int Tryf.underlying3 ws) trodAll_mk0)))))

theorem laidOut : laidOutB Tryf.pinned.checked.prog = true := by kernel_rfl
theorem stops : Tryf.pinned.checked.prog.stops = ["fmt.errorf"] := by kernel_rfl
theorem stopKnobs : Tryf.pinned.checked.prog.stopKnobs = [] := by kernel_rfl
theorem quiet (os : Os) : Stop.quiet Tryf.pinned.checked.prog os := by
  intro k hk
  rw [stopKnobs] at hk
  cases hk

/-- ████ THE STATEMENT ████ -/
theorem proved : Rows.FnClassLiteralHangsOnFlagAndCharAloneToldSaid :=
  Claim7.holds_of_told_any 3 Tryf.f3 "fmt.errorf" [] [] _ _ _ (by kernel_rfl) rfl rfl rfl laidOut (by kernel_rfl) rfl ⟨rfl, rfl, rfl, rfl, rfl, rfl, rfl⟩ rfl rfl (by kernel_rfl) (by kernel_rfl) Tryf.func3 (by kernel_rfl)
    (of_decide_eq_true (by kernel_rfl)) (by unfold Func.isWrapper; first | (rw [if_pos (by decide +kernel)]; kernel_rfl) | (rw [if_neg (by decide +kernel)]; exact ⟨rfl, rfl⟩)) stops.symm rfl stopKnobs.symm (by kernel_rfl)
    (by kernel_rfl) (by kernel_rfl) (by kernel_rfl) (by kernel_rfl) (by kernel_rfl) (by kernel_rfl) (by kernel_rfl) (by kernel_rfl) (by kernel_rfl) rfl (by kernel_rfl) rfl rfl
    rfl rfl
    rfl (by kernel_rfl) (by kernel_rfl) (by kernel_rfl) (by decide) (by kernel_rfl)
    (OpenClaim.moreEntering_of (by kernel_rfl) (by kernel_rfl) (by kernel_rfl) (by kernel_rfl) (by kernel_rfl) (by kernel_rfl) (by kernel_rfl) (by kernel_rfl) (by kernel_rfl) (by kernel_rfl))
    ⟨_, WideRow.started_initial, quiet _⟩
    (fun os started _ H enc _ => lifted os started H enc)

end Go.Proofs.Qxb6605865aFmt.cls
