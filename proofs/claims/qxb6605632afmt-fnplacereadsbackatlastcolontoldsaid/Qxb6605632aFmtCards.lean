/-
  DERIVED. GIVEN WITH THE SEED: THE CARDS: each row of Qxb6605632aFmtRows.lean that lists a variable, with what it lists TIED to the program's text (the seventh form; the later family's looks); each row that meets fmt, with fmt's text TOLD by the authors' own Lean function (tested against real Go, not proved from fmt's source: count such statements apart). THE CARD IS WHAT COUNTS. Prove the row's statement (the work); the ties are given (Qxb6605632aFmtTie.lean); close each card by the builder's one call (the guide's Derived/Test/ToyasCard.lean, 'card_holds'). Laid BY PROGRAM, IN A SANDBOX (cutbox-door.mjs). By AI agents, Wed Nov 11 2026. No macro, syntax, notation, axiom, sorry.
-/
import Derived.Test.Qxb6605632aFmtRows
import GoSem.ClaimSeven
namespace Go.Proofs.Qxb6605632aFmt
namespace Rows

/-- THE TOLD CARD OF 'zzlaws_internal_book_b1.FnPlaceReadsBackAtLastColon'. -/
def fnPlaceReadsBackAtLastColonCard : Claim7 := { stood := { row := fnPlaceReadsBackAtLastColonRow, standIns := [], harness := (true, "b50fea7b614cb78f88708b8d51c7271116241a7e174659f1c3ab16a011b25450"), looks := false }, told := true, goes := false }
def FnPlaceReadsBackAtLastColonToldSaid : Prop := Claim7.holds Tryf.pinned (.plain (OpenSpec.ofChange fnPlaceReadsBackAtLastColonSpec)) fnPlaceReadsBackAtLastColonCard
/-- ITS FALSE NEIGHBOUR. Refute it at one input. -/
def FnPlaceReadsBackAtLastColonToldWrongFalsely : Prop := Claim7.holds Tryf.pinned (.plain (OpenSpec.ofChange fnPlaceReadsBackAtLastColonWrong)) fnPlaceReadsBackAtLastColonCard
end Rows
end Go.Proofs.Qxb6605632aFmt
