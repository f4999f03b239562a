/-
  No cell of these rows narrows 'for every input' (looked for: loops, veiled, ifaces, maps, wideKeys, modest, calm, conditions, laid).
  DERIVED. THE GIVEN ROWS OF THIS SEAT. 1 by the template 'for every input the law returns true; each argument reads behind the call as it read before'; 0 by the template 'total and deterministic' (their statements: Qxb6605865aTotals.lean).
  GIVEN WITH THE SEED: the statements are not yours to turn. If you find one false, say at which input.
  Laid BY PROGRAM, IN A SANDBOX (cutbox-rows.mjs): the forced cells as the released guide's own fill.sh prints them over the translation 66d48cc13e2703b2… (all of the seat's roots in one cut). By AI agents, Wed Nov 11 2026. No macro, syntax, notation, axiom, sorry.
-/
import Derived.Test.Qxb6605865aChecked
import GoSem.Claim
import GoSem.ClaimJoined
import GoSem.ClaimMapViews
import Derived.JoinedTies
import Derived.KernelRfl
namespace Go.Proofs.Qxb6605865a
/- THE CELL 'sum', in the pinned program and in every row, IS THE sha256 OF THE DUMP (.gsa) THAT Qxb6605865aProg.lean LOADS. Nothing in Lean hashes anything: it is a label: what it is worth is what the hold of that sum in a sandbox is worth. -/
noncomputable def Try.pinned : Pinned := { name := "qxb6605865a", sum := "66d48cc13e2703b2ab59ff4ed825d869ba2fc81a45a79c7adb9178dff1ccd9a8", checked := Try.checked }
namespace Rows
def none {H : Type} : Left H := { results := [], args := [] }

/-- 'zzlaws_internal_rulesyntax_b1.FnAtSplitsAndSeesTheRest': WHATEVER THE INPUT: true; the input reads as it did. -/
def fnAtSplitsAndSeesTheRestSpec : ChangeSpec := { name := "fnAtSplitsAndSeesTheRest", fn := fun _ => fun
  | [d1, d2, d3, d4] => { results := [.lit (.bool true)], args := [d1, d2, d3, d4] }
  | _ => none }
def fnAtSplitsAndSeesTheRestRow : OpenClaim := { program := "qxb6605865a", sum := "66d48cc13e2703b2ab59ff4ed825d869ba2fc81a45a79c7adb9178dff1ccd9a8", func := "example.com/waybill/waybill/zzlaws_internal_rulesyntax_b1.FnAtSplitsAndSeesTheRest", spec := "fnAtSplitsAndSeesTheRest", apart := false }
def FnAtSplitsAndSeesTheRestSaid : Prop := fnAtSplitsAndSeesTheRestRow.holds Try.pinned (OpenSpec.ofChange fnAtSplitsAndSeesTheRestSpec)

/-- ITS FALSE NEIGHBOUR: 'it returns false'. Refute it at one input. -/
def fnAtSplitsAndSeesTheRestWrong : ChangeSpec := { name := "fnAtSplitsAndSeesTheRest", fn := fun _ => fun
  | [d1, d2, d3, d4] => { results := [.lit (.bool false)], args := [d1, d2, d3, d4] }
  | _ => none }
def FnAtSplitsAndSeesTheRestWrongFalsely : Prop := fnAtSplitsAndSeesTheRestRow.holds Try.pinned (OpenSpec.ofChange fnAtSplitsAndSeesTheRestWrong)

end Rows
end Go.Proofs.Qxb6605865a
