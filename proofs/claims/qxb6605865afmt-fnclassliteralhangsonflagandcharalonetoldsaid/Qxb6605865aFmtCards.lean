/-
  DERIVED. GIVEN WITH THE SEED: THE CARDS: each row of Qxb6605865aFmtRows.lean that lists a variable, with what it lists TIED to the program's text (the seventh form; the later family's looks); each row that meets fmt, with fmt's text TOLD by the authors' own Lean function (tested against real Go, not proved from fmt's source: count such statements apart). THE CARD IS WHAT COUNTS. Prove the row's statement (the work); the ties are given (Qxb6605865aFmtTie.lean); close each card by the builder's one call (the guide's Derived/Test/ToyasCard.lean, 'card_holds'). Laid BY PROGRAM, IN A SANDBOX (cutbox-door.mjs). By AI agents, Wed Nov 11 2026. No macro, syntax, notation, axiom, sorry.
-/
import Derived.Test.Qxb6605865aFmtRows
import GoSem.ClaimSeven
namespace Go.Proofs.Qxb6605865aFmt
namespace Rows

/-- THE TOLD CARD OF 'zzlaws_internal_rulesyntax_b1.FnClassLiteralHangsOnFlagAndCharAlone'. -/
def fnClassLiteralHangsOnFlagAndCharAloneCard : Claim7 := { stood := { row := fnClassLiteralHangsOnFlagAndCharAloneRow, standIns := [], harness := (true, "776a4353faaa6d879b834a1beab1ff548e25d655da9c75bac2c176de77251912"), looks := false }, told := true, goes := false }
def FnClassLiteralHangsOnFlagAndCharAloneToldSaid : Prop := Claim7.holds Tryf.pinned (.plain (OpenSpec.ofChange fnClassLiteralHangsOnFlagAndCharAloneSpec)) fnClassLiteralHangsOnFlagAndCharAloneCard
/-- ITS FALSE NEIGHBOUR. Refute it at one input. -/
def FnClassLiteralHangsOnFlagAndCharAloneToldWrongFalsely : Prop := Claim7.holds Tryf.pinned (.plain (OpenSpec.ofChange fnClassLiteralHangsOnFlagAndCharAloneWrong)) fnClassLiteralHangsOnFlagAndCharAloneCard

/-- THE TOLD CARD OF 'zzlaws_internal_rulesyntax_b1.FnLookEscapeIsAnAssertionAlone'. -/
def fnLookEscapeIsAnAssertionAloneCard : Claim7 := { stood := { row := fnLookEscapeIsAnAssertionAloneRow, standIns := [], harness := (true, "776a4353faaa6d879b834a1beab1ff548e25d655da9c75bac2c176de77251912"), looks := false }, told := true, goes := false }
def FnLookEscapeIsAnAssertionAloneToldSaid : Prop := Claim7.holds Tryf.pinned (.plain (OpenSpec.ofChange fnLookEscapeIsAnAssertionAloneSpec)) fnLookEscapeIsAnAssertionAloneCard
/-- ITS FALSE NEIGHBOUR. Refute it at one input. -/
def FnLookEscapeIsAnAssertionAloneToldWrongFalsely : Prop := Claim7.holds Tryf.pinned (.plain (OpenSpec.ofChange fnLookEscapeIsAnAssertionAloneWrong)) fnLookEscapeIsAnAssertionAloneCard
end Rows
end Go.Proofs.Qxb6605865aFmt
