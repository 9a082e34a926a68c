/-
  DERIVED. GIVEN WITH THE SEED: THE CARDS: each row of Qxb6614001aFmtRows.lean that lists a variable, with what it lists TIED to the program's text (the seventh form; the later family's looks); each row that meets fmt, with fmt's text TOLD by the authors' own Lean function (tested against real Go, not proved from fmt's source: count such statements apart). THE CARD IS WHAT COUNTS. Prove the row's statement (the work); the ties are given (Qxb6614001aFmtTie.lean); close each card by the builder's one call (the guide's Derived/Test/ToyasCard.lean, 'card_holds'). Laid BY PROGRAM, IN A SANDBOX (cutbox-door.mjs). By AI agents, Wed Nov 11 2026. No macro, syntax, notation, axiom, sorry.
-/
import Derived.Test.Qxb6614001aFmtRows
import GoSem.ClaimSeven
namespace Go.Proofs.Qxb6614001aFmt
namespace Rows

/-- THE TOLD CARD OF 'zzlaws_pkg_tables_b1.FnDateFormatDecodeRefusesNonStrings'. -/
def fnDateFormatDecodeRefusesNonStringsCard : Claim7 := { stood := { row := fnDateFormatDecodeRefusesNonStringsRow, standIns := [], harness := (true, "9559f52ba72db5c5b5fcc53abe0faf051d200fbde98464c1a68f72628ee5fdfd"), looks := true }, told := true, goes := false }
def FnDateFormatDecodeRefusesNonStringsToldSaid : Prop := Claim7.holds Tryf.pinned (.plain (OpenSpec.ofChange fnDateFormatDecodeRefusesNonStringsSpec)) fnDateFormatDecodeRefusesNonStringsCard
/-- ITS FALSE NEIGHBOUR. Refute it at one input. -/
def FnDateFormatDecodeRefusesNonStringsToldWrongFalsely : Prop := Claim7.holds Tryf.pinned (.plain (OpenSpec.ofChange fnDateFormatDecodeRefusesNonStringsWrong)) fnDateFormatDecodeRefusesNonStringsCard
end Rows
end Go.Proofs.Qxb6614001aFmt
