/-
  No cell of these rows narrows 'for every input' (looked for: loops, veiled, ifaces, maps, wideKeys, modest, calm, conditions, laid).
  DERIVED. THE GIVEN ROWS OF THIS SEAT. 2 by the template 'for every input the law returns true; each argument reads behind the call as it read before'; 0 by the template 'total and deterministic' (their statements: Qxb6605865aFmtTotals.lean).
  GIVEN WITH THE SEED: the statements are not yours to turn. If you find one false, say at which input.
  Laid BY PROGRAM, IN A SANDBOX (cutbox-rows.mjs): the forced cells as the released guide's own fill.sh prints them over the translation fc2d131bd0ed1e43… (all of the seat's roots in one cut). By AI agents, Wed Nov 11 2026. No macro, syntax, notation, axiom, sorry.
-/
import Derived.Test.Qxb6605865aFmtChecked
import GoSem.Claim
import GoSem.ClaimJoined
import GoSem.ClaimMapViews
import Derived.JoinedTies
import Derived.KernelRfl
namespace Go.Proofs.Qxb6605865aFmt
/- THE CELL 'sum', in the pinned program and in every row, IS THE sha256 OF THE DUMP (.gsa) THAT Qxb6605865aFmtProg.lean LOADS. Nothing in Lean hashes anything: it is a label: what it is worth is what the hold of that sum in a sandbox is worth. -/
noncomputable def Tryf.pinned : Pinned := { name := "qxb6605865afmt", sum := "fc2d131bd0ed1e43f920934405eae6352601951cec0f046476a68827f6e82333", checked := Tryf.checked }
namespace Rows
def none {H : Type} : Left H := { results := [], args := [] }

/-- 'zzlaws_internal_rulesyntax_b1.FnClassLiteralHangsOnFlagAndCharAlone': WHATEVER THE INPUT: true; the input reads as it did. -/
def fnClassLiteralHangsOnFlagAndCharAloneSpec : ChangeSpec := { name := "fnClassLiteralHangsOnFlagAndCharAlone", fn := fun _ => fun
  | [d1, d2, d3, d4, d5, d6] => { results := [.lit (.bool true)], args := [d1, d2, d3, d4, d5, d6] }
  | _ => none }
def fnClassLiteralHangsOnFlagAndCharAloneRow : OpenClaim := { program := "qxb6605865afmt", sum := "fc2d131bd0ed1e43f920934405eae6352601951cec0f046476a68827f6e82333", func := "example.com/waybill/waybill/zzlaws_internal_rulesyntax_b1.FnClassLiteralHangsOnFlagAndCharAlone", spec := "fnClassLiteralHangsOnFlagAndCharAlone", stops := ["fmt.errorf"], inPlace := ["fmt.errorf"], apart := false }
/-- NO THEOREM (fmt's text is open here; it may be false): for the released tool's asking of the row's closed facts alone. THE STATEMENT IS 'FnClassLiteralHangsOnFlagAndCharAloneToldSaid' (Qxb6605865aFmtCards.lean). -/
def FnClassLiteralHangsOnFlagAndCharAloneFormAsk : Prop := fnClassLiteralHangsOnFlagAndCharAloneRow.holds Tryf.pinned (OpenSpec.ofChange fnClassLiteralHangsOnFlagAndCharAloneSpec)

/-- ITS FALSE NEIGHBOUR: 'it returns false'. Refute it at one input. -/
def fnClassLiteralHangsOnFlagAndCharAloneWrong : ChangeSpec := { name := "fnClassLiteralHangsOnFlagAndCharAlone", fn := fun _ => fun
  | [d1, d2, d3, d4, d5, d6] => { results := [.lit (.bool false)], args := [d1, d2, d3, d4, d5, d6] }
  | _ => none }
def FnClassLiteralHangsOnFlagAndCharAloneWrongFormAsk : Prop := fnClassLiteralHangsOnFlagAndCharAloneRow.holds Tryf.pinned (OpenSpec.ofChange fnClassLiteralHangsOnFlagAndCharAloneWrong)

/-- 'zzlaws_internal_rulesyntax_b1.FnLookEscapeIsAnAssertionAlone': WHATEVER THE INPUT: true; the input reads as it did. -/
def fnLookEscapeIsAnAssertionAloneSpec : ChangeSpec := { name := "fnLookEscapeIsAnAssertionAlone", fn := fun _ => fun
  | [d1, d2, d3, d4, d5] => { results := [.lit (.bool true)], args := [d1, d2, d3, d4, d5] }
  | _ => none }
def fnLookEscapeIsAnAssertionAloneRow : OpenClaim := { program := "qxb6605865afmt", sum := "fc2d131bd0ed1e43f920934405eae6352601951cec0f046476a68827f6e82333", func := "example.com/waybill/waybill/zzlaws_internal_rulesyntax_b1.FnLookEscapeIsAnAssertionAlone", spec := "fnLookEscapeIsAnAssertionAlone", stops := ["fmt.errorf"], inPlace := ["fmt.errorf"], apart := false }
/-- NO THEOREM (fmt's text is open here; it may be false): for the released tool's asking of the row's closed facts alone. THE STATEMENT IS 'FnLookEscapeIsAnAssertionAloneToldSaid' (Qxb6605865aFmtCards.lean). -/
def FnLookEscapeIsAnAssertionAloneFormAsk : Prop := fnLookEscapeIsAnAssertionAloneRow.holds Tryf.pinned (OpenSpec.ofChange fnLookEscapeIsAnAssertionAloneSpec)

/-- ITS FALSE NEIGHBOUR: 'it returns false'. Refute it at one input. -/
def fnLookEscapeIsAnAssertionAloneWrong : ChangeSpec := { name := "fnLookEscapeIsAnAssertionAlone", fn := fun _ => fun
  | [d1, d2, d3, d4, d5] => { results := [.lit (.bool false)], args := [d1, d2, d3, d4, d5] }
  | _ => none }
def FnLookEscapeIsAnAssertionAloneWrongFormAsk : Prop := fnLookEscapeIsAnAssertionAloneRow.holds Tryf.pinned (OpenSpec.ofChange fnLookEscapeIsAnAssertionAloneWrong)

end Rows
end Go.Proofs.Qxb6605865aFmt
