/-
  No cell of these rows narrows 'for every input' (looked for: loops, veiled, ifaces, maps, wideKeys, modest, calm, conditions, laid).
  DERIVED. THE GIVEN ROWS OF THIS SEAT. 1 by the template 'for every input the law returns true; each argument reads behind the call as it read before'; 0 by the template 'total and deterministic' (their statements: Qxb6605632aFmtTotals.lean).
  GIVEN WITH THE SEED: the statements are not yours to turn. If you find one false, say at which input.
  Laid BY PROGRAM, IN A SANDBOX (cutbox-rows.mjs): the forced cells as the released guide's own fill.sh prints them over the translation b4fab7ebd9384162… (all of the seat's roots in one cut). By AI agents, Wed Nov 11 2026. No macro, syntax, notation, axiom, sorry.
-/
import Derived.Test.Qxb6605632aFmtChecked
import GoSem.Claim
import GoSem.ClaimJoined
import GoSem.ClaimMapViews
import Derived.JoinedTies
import Derived.KernelRfl
namespace Go.Proofs.Qxb6605632aFmt
/- THE CELL 'sum', in the pinned program and in every row, IS THE sha256 OF THE DUMP (.gsa) THAT Qxb6605632aFmtProg.lean LOADS. Nothing in Lean hashes anything: it is a label: what it is worth is what the hold of that sum in a sandbox is worth. -/
noncomputable def Tryf.pinned : Pinned := { name := "qxb6605632afmt", sum := "b4fab7ebd9384162f5a50f018e787fb62e37b92da85a8734ad217a297116fa72", checked := Tryf.checked }
namespace Rows
def none {H : Type} : Left H := { results := [], args := [] }

/-- 'zzlaws_internal_book_b1.FnPlaceReadsBackAtLastColon': WHATEVER THE INPUT: true; the input reads as it did. -/
def fnPlaceReadsBackAtLastColonSpec : ChangeSpec := { name := "fnPlaceReadsBackAtLastColon", fn := fun _ => fun
  | [d1, d2] => { results := [.lit (.bool true)], args := [d1, d2] }
  | _ => none }
def fnPlaceReadsBackAtLastColonRow : OpenClaim := { program := "qxb6605632afmt", sum := "b4fab7ebd9384162f5a50f018e787fb62e37b92da85a8734ad217a297116fa72", func := "example.com/tuoguan/tuoguan/zzlaws_internal_book_b1.FnPlaceReadsBackAtLastColon", spec := "fnPlaceReadsBackAtLastColon", stops := ["fmt.Sprintf"], inPlace := ["fmt.Sprintf"], apart := false }
/-- NO THEOREM (fmt's text is open here; it may be false): for the released tool's asking of the row's closed facts alone. THE STATEMENT IS 'FnPlaceReadsBackAtLastColonToldSaid' (Qxb6605632aFmtCards.lean). -/
def FnPlaceReadsBackAtLastColonFormAsk : Prop := fnPlaceReadsBackAtLastColonRow.holds Tryf.pinned (OpenSpec.ofChange fnPlaceReadsBackAtLastColonSpec)

/-- ITS FALSE NEIGHBOUR: 'it returns false'. Refute it at one input. -/
def fnPlaceReadsBackAtLastColonWrong : ChangeSpec := { name := "fnPlaceReadsBackAtLastColon", fn := fun _ => fun
  | [d1, d2] => { results := [.lit (.bool false)], args := [d1, d2] }
  | _ => none }
def FnPlaceReadsBackAtLastColonWrongFormAsk : Prop := fnPlaceReadsBackAtLastColonRow.holds Tryf.pinned (OpenSpec.ofChange fnPlaceReadsBackAtLastColonWrong)

end Rows
end Go.Proofs.Qxb6605632aFmt
