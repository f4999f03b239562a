/-
  No cell of these rows narrows 'for every input' (looked for: loops, veiled, ifaces, maps, wideKeys, modest, calm, conditions, laid).
  DERIVED. THE GIVEN ROWS OF THIS SEAT. 1 by the template 'for every input the law returns true; each argument reads behind the call as it read before'; 0 by the template 'total and deterministic' (their statements: Qxb6614468aTotals.lean).
  GIVEN WITH THE SEED: the statements are not yours to turn. If you find one false, say at which input.
  Laid BY PROGRAM, IN A SANDBOX (cutbox-rows.mjs): the forced cells as the released guide's own fill.sh prints them over the translation f9eb9aa5cf8cce75… (all of the seat's roots in one cut). By AI agents, Wed Nov 11 2026. No macro, syntax, notation, axiom, sorry.
-/
import Derived.Test.Qxb6614468aChecked
import GoSem.Claim
import GoSem.ClaimJoined
import GoSem.ClaimMapViews
import Derived.JoinedTies
import Derived.KernelRfl
namespace Go.Proofs.Qxb6614468a
/- THE CELL 'sum', in the pinned program and in every row, IS THE sha256 OF THE DUMP (.gsa) THAT Qxb6614468aProg.lean LOADS. Nothing in Lean hashes anything: it is a label: what it is worth is what the hold of that sum in a sandbox is worth. -/
noncomputable def Try.pinned : Pinned := { name := "qxb6614468a", sum := "f9eb9aa5cf8cce753a936b39959811b885b950cda5a5a7b4b22bf7ebddaad46a", checked := Try.checked }
namespace Rows
def none {H : Type} : Left H := { results := [], args := [] }

/-- 'zzlaws_internal_raft_b1.FnIncludesAfterInsertingAndStripping': WHATEVER THE INPUT: true; the input reads as it did. -/
def fnIncludesAfterInsertingAndStrippingSpec : ChangeSpec := { name := "fnIncludesAfterInsertingAndStripping", fn := fun _ => fun
  | [d1, d2, d3, d4, d5, d6] => { results := [.lit (.bool true)], args := [d1, d2, d3, d4, d5, d6] }
  | _ => none }
def fnIncludesAfterInsertingAndStrippingRow : OpenClaim := { program := "qxb6614468a", sum := "f9eb9aa5cf8cce753a936b39959811b885b950cda5a5a7b4b22bf7ebddaad46a", func := "example.com/keelstone/keelstone/zzlaws_internal_raft_b1.FnIncludesAfterInsertingAndStripping", spec := "fnIncludesAfterInsertingAndStripping", unfollowed := true, recurses := true, apart := false }
def FnIncludesAfterInsertingAndStrippingSaid : Prop := fnIncludesAfterInsertingAndStrippingRow.holds Try.pinned (OpenSpec.ofChange fnIncludesAfterInsertingAndStrippingSpec)

/-- ITS FALSE NEIGHBOUR: 'it returns false'. Refute it at one input. -/
def fnIncludesAfterInsertingAndStrippingWrong : ChangeSpec := { name := "fnIncludesAfterInsertingAndStripping", fn := fun _ => fun
  | [d1, d2, d3, d4, d5, d6] => { results := [.lit (.bool false)], args := [d1, d2, d3, d4, d5, d6] }
  | _ => none }
def FnIncludesAfterInsertingAndStrippingWrongFalsely : Prop := fnIncludesAfterInsertingAndStrippingRow.holds Try.pinned (OpenSpec.ofChange fnIncludesAfterInsertingAndStrippingWrong)

end Rows
end Go.Proofs.Qxb6614468a
