/-
  No cell of these rows narrows 'for every input' (looked for: loops, veiled, ifaces, maps, wideKeys, modest, calm, conditions, laid).
  DERIVED. THE GIVEN ROWS OF THIS SEAT. 3 by the template 'for every input the law returns true; each argument reads behind the call as it read before'; 0 by the template 'total and deterministic' (their statements: Qxb6614473aTotals.lean).
  GIVEN WITH THE SEED: the statements are not yours to turn. If you find one false, say at which input.
  Laid BY PROGRAM, IN A SANDBOX (cutbox-rows.mjs): the forced cells as the released guide's own fill.sh prints them over the translation 8d99393febe0040e… (all of the seat's roots in one cut). By AI agents, Wed Nov 11 2026. No macro, syntax, notation, axiom, sorry.
-/
import Derived.Test.Qxb6614473aChecked
import GoSem.Claim
import GoSem.ClaimJoined
import GoSem.ClaimMapViews
import Derived.JoinedTies
import Derived.KernelRfl
namespace Go.Proofs.Qxb6614473a
/- THE CELL 'sum', in the pinned program and in every row, IS THE sha256 OF THE DUMP (.gsa) THAT Qxb6614473aProg.lean LOADS. Nothing in Lean hashes anything: it is a label: what it is worth is what the hold of that sum in a sandbox is worth. -/
noncomputable def Try.pinned : Pinned := { name := "qxb6614473a", sum := "8d99393febe0040ed9d51d12b237fb44277fc2085a8d428da92d7d995e1b9681", checked := Try.checked }
namespace Rows
def none {H : Type} : Left H := { results := [], args := [] }

/-- 'zzlaws_server_b1.FnVersionsAscendingKnownALPN': WHATEVER THE INPUT: true; the input reads as it did. -/
def fnVersionsAscendingKnownALPNSpec : ChangeSpec := { name := "fnVersionsAscendingKnownALPN", fn := fun _ => fun
  | [] => { results := [.lit (.bool true)], args := [] }
  | _ => none }
def fnVersionsAscendingKnownALPNRow : OpenClaim := { program := "qxb6614473a", sum := "8d99393febe0040ed9d51d12b237fb44277fc2085a8d428da92d7d995e1b9681", func := "example.com/ferrule/ferrule/zzlaws_server_b1.FnVersionsAscendingKnownALPN", spec := "fnVersionsAscendingKnownALPN", apart := false }
def FnVersionsAscendingKnownALPNSaid : Prop := fnVersionsAscendingKnownALPNRow.holds Try.pinned (OpenSpec.ofChange fnVersionsAscendingKnownALPNSpec)

/-- ITS FALSE NEIGHBOUR: 'it returns false'. Refute it at one input. -/
def fnVersionsAscendingKnownALPNWrong : ChangeSpec := { name := "fnVersionsAscendingKnownALPN", fn := fun _ => fun
  | [] => { results := [.lit (.bool false)], args := [] }
  | _ => none }
def FnVersionsAscendingKnownALPNWrongFalsely : Prop := fnVersionsAscendingKnownALPNRow.holds Try.pinned (OpenSpec.ofChange fnVersionsAscendingKnownALPNWrong)

/-- 'zzlaws_server_b1.FnVersionsFreshSlice': WHATEVER THE INPUT: true; the input reads as it did. -/
def fnVersionsFreshSliceSpec : ChangeSpec := { name := "fnVersionsFreshSlice", fn := fun _ => fun
  | [] => { results := [.lit (.bool true)], args := [] }
  | _ => none }
def fnVersionsFreshSliceRow : OpenClaim := { program := "qxb6614473a", sum := "8d99393febe0040ed9d51d12b237fb44277fc2085a8d428da92d7d995e1b9681", func := "example.com/ferrule/ferrule/zzlaws_server_b1.FnVersionsFreshSlice", spec := "fnVersionsFreshSlice", apart := false }
def FnVersionsFreshSliceSaid : Prop := fnVersionsFreshSliceRow.holds Try.pinned (OpenSpec.ofChange fnVersionsFreshSliceSpec)

/-- ITS FALSE NEIGHBOUR: 'it returns false'. Refute it at one input. -/
def fnVersionsFreshSliceWrong : ChangeSpec := { name := "fnVersionsFreshSlice", fn := fun _ => fun
  | [] => { results := [.lit (.bool false)], args := [] }
  | _ => none }
def FnVersionsFreshSliceWrongFalsely : Prop := fnVersionsFreshSliceRow.holds Try.pinned (OpenSpec.ofChange fnVersionsFreshSliceWrong)

/-- 'zzlaws_server_b1.FnProtocolInjectiveSharedPrefix': WHATEVER THE INPUT: true; the input reads as it did. -/
def fnProtocolInjectiveSharedPrefixSpec : ChangeSpec := { name := "fnProtocolInjectiveSharedPrefix", fn := fun _ => fun
  | [d1, d2] => { results := [.lit (.bool true)], args := [d1, d2] }
  | _ => none }
def fnProtocolInjectiveSharedPrefixRow : OpenClaim := { program := "qxb6614473a", sum := "8d99393febe0040ed9d51d12b237fb44277fc2085a8d428da92d7d995e1b9681", func := "example.com/ferrule/ferrule/zzlaws_server_b1.FnProtocolInjectiveSharedPrefix", spec := "fnProtocolInjectiveSharedPrefix", apart := false }
def FnProtocolInjectiveSharedPrefixSaid : Prop := fnProtocolInjectiveSharedPrefixRow.holds Try.pinned (OpenSpec.ofChange fnProtocolInjectiveSharedPrefixSpec)

/-- ITS FALSE NEIGHBOUR: 'it returns false'. Refute it at one input. -/
def fnProtocolInjectiveSharedPrefixWrong : ChangeSpec := { name := "fnProtocolInjectiveSharedPrefix", fn := fun _ => fun
  | [d1, d2] => { results := [.lit (.bool false)], args := [d1, d2] }
  | _ => none }
def FnProtocolInjectiveSharedPrefixWrongFalsely : Prop := fnProtocolInjectiveSharedPrefixRow.holds Try.pinned (OpenSpec.ofChange fnProtocolInjectiveSharedPrefixWrong)

end Rows
end Go.Proofs.Qxb6614473a
