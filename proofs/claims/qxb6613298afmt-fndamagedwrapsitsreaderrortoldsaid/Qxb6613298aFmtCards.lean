/-
  DERIVED. GIVEN WITH THE SEED: THE CARDS: each row of Qxb6613298aFmtRows.lean that lists a variable, with what it lists TIED to the program's text (the seventh form; the later family's looks); each row that meets fmt, with fmt's text TOLD by the authors' own Lean function (tested against real Go, not proved from fmt's source: count such statements apart). THE CARD IS WHAT COUNTS. Prove the row's statement (the work); the ties are given (Qxb6613298aFmtTie.lean); close each card by the builder's one call (the guide's Derived/Test/ToyasCard.lean, 'card_holds'). Laid BY PROGRAM, IN A SANDBOX (cutbox-door.mjs). By AI agents, Wed Nov 11 2026. No macro, syntax, notation, axiom, sorry.
-/
import Derived.Test.Qxb6613298aFmtRows
import GoSem.ClaimSeven
namespace Go.Proofs.Qxb6613298aFmt
namespace Rows

/-- THE TOLD CARD OF 'zzlaws_internal_binlog_b1.FnDamagedWrapsItsReadError'. -/
def fnDamagedWrapsItsReadErrorCard : Claim7 := { stood := { row := fnDamagedWrapsItsReadErrorRow, standIns := [], harness := (true, "4b39d4f78c978bbd61d9cb3c1c2acc0f3850e92ed82d76ff2a6bf58a36773258"), looks := true }, told := true, goes := false }
def FnDamagedWrapsItsReadErrorToldSaid : Prop := Claim7.holds Tryf.pinned (.plain (OpenSpec.ofChange fnDamagedWrapsItsReadErrorSpec)) fnDamagedWrapsItsReadErrorCard
/-- ITS FALSE NEIGHBOUR. Refute it at one input. -/
def FnDamagedWrapsItsReadErrorToldWrongFalsely : Prop := Claim7.holds Tryf.pinned (.plain (OpenSpec.ofChange fnDamagedWrapsItsReadErrorWrong)) fnDamagedWrapsItsReadErrorCard
end Rows
end Go.Proofs.Qxb6613298aFmt
