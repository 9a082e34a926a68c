/-
  No cell of these rows narrows 'for every input' (looked for: loops, veiled, ifaces, maps, wideKeys, modest, calm, conditions, laid).
  DERIVED. THE GIVEN ROWS OF THIS SEAT. 1 by the template 'for every input the law returns true; each argument reads behind the call as it read before'; 0 by the template 'total and deterministic' (their statements: Qxb6614001aFmtTotals.lean).
  GIVEN WITH THE SEED: the statements are not yours to turn. If you find one false, say at which input.
  Laid BY PROGRAM, IN A SANDBOX (cutbox-rows.mjs): the forced cells as the released guide's own fill.sh prints them over the translation a629270773b13d48… (all of the seat's roots in one cut). By AI agents, Wed Nov 11 2026. No macro, syntax, notation, axiom, sorry.
-/
import Derived.Test.Qxb6614001aFmtChecked
import GoSem.Claim
import GoSem.ClaimJoined
import GoSem.ClaimMapViews
import Derived.JoinedTies
import Derived.KernelRfl
namespace Go.Proofs.Qxb6614001aFmt
/- THE CELL 'sum', in the pinned program and in every row, IS THE sha256 OF THE DUMP (.gsa) THAT Qxb6614001aFmtProg.lean LOADS. Nothing in Lean hashes anything: it is a label: what it is worth is what the hold of that sum in a sandbox is worth. -/
noncomputable def Tryf.pinned : Pinned := { name := "qxb6614001afmt", sum := "a629270773b13d48f0be34897d425e2907b7bb77db28a6bc90707588b8cd81c4", checked := Tryf.checked }
namespace Rows
def none {H : Type} : Left H := { results := [], args := [] }

/-- 'zzlaws_pkg_tables_b1.FnDateFormatDecodeRefusesNonStrings': WHATEVER THE INPUT: true; the input reads as it did. -/
def fnDateFormatDecodeRefusesNonStringsSpec : ChangeSpec := { name := "fnDateFormatDecodeRefusesNonStrings", fn := fun _ => fun
  | [d1, d2, d3, d4] => { results := [.lit (.bool true)], args := [d1, d2, d3, d4] }
  | _ => none }
def fnDateFormatDecodeRefusesNonStringsRow : OpenClaim := { program := "qxb6614001afmt", sum := "a629270773b13d48f0be34897d425e2907b7bb77db28a6bc90707588b8cd81c4", func := "example.com/custos/custos/zzlaws_pkg_tables_b1.FnDateFormatDecodeRefusesNonStrings", spec := "fnDateFormatDecodeRefusesNonStrings", stops := ["fmt.errorf"], inPlace := ["fmt.errorf"], apart := false }
/-- NO THEOREM (fmt's text is open here; it may be false): for the released tool's asking of the row's closed facts alone. THE STATEMENT IS 'FnDateFormatDecodeRefusesNonStringsToldSaid' (Qxb6614001aFmtCards.lean). -/
def FnDateFormatDecodeRefusesNonStringsFormAsk : Prop := fnDateFormatDecodeRefusesNonStringsRow.holds Tryf.pinned (OpenSpec.ofChange fnDateFormatDecodeRefusesNonStringsSpec)

/-- ITS FALSE NEIGHBOUR: 'it returns false'. Refute it at one input. -/
def fnDateFormatDecodeRefusesNonStringsWrong : ChangeSpec := { name := "fnDateFormatDecodeRefusesNonStrings", fn := fun _ => fun
  | [d1, d2, d3, d4] => { results := [.lit (.bool false)], args := [d1, d2, d3, d4] }
  | _ => none }
def FnDateFormatDecodeRefusesNonStringsWrongFormAsk : Prop := fnDateFormatDecodeRefusesNonStringsRow.holds Tryf.pinned (OpenSpec.ofChange fnDateFormatDecodeRefusesNonStringsWrong)

end Rows
end Go.Proofs.Qxb6614001aFmt
