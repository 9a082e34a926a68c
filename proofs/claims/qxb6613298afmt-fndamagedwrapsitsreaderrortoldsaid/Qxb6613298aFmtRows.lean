/-
  No cell of these rows narrows 'for every input' (looked for: loops, veiled, ifaces, maps, wideKeys, modest, calm, conditions, laid).
  DERIVED. THE GIVEN ROWS OF THIS SEAT. 1 by the template 'for every input the law returns true; each argument reads behind the call as it read before'; 0 by the template 'total and deterministic' (their statements: Qxb6613298aFmtTotals.lean).
  GIVEN WITH THE SEED: the statements are not yours to turn. If you find one false, say at which input.
  Laid BY PROGRAM, IN A SANDBOX (cutbox-rows.mjs): the forced cells as the released guide's own fill.sh prints them over the translation 6455fa34760edc44… (all of the seat's roots in one cut). By AI agents, Wed Nov 11 2026. No macro, syntax, notation, axiom, sorry.
-/
import Derived.Test.Qxb6613298aFmtChecked
import GoSem.Claim
import GoSem.ClaimJoined
import GoSem.ClaimMapViews
import Derived.JoinedTies
import Derived.KernelRfl
namespace Go.Proofs.Qxb6613298aFmt
/- THE CELL 'sum', in the pinned program and in every row, IS THE sha256 OF THE DUMP (.gsa) THAT Qxb6613298aFmtProg.lean LOADS. Nothing in Lean hashes anything: it is a label: what it is worth is what the hold of that sum in a sandbox is worth. -/
noncomputable def Tryf.pinned : Pinned := { name := "qxb6613298afmt", sum := "6455fa34760edc44a766795cda81e17c4e306a0ab3c9e9b1d59792bd78da7ff4", checked := Tryf.checked }
namespace Rows
def none {H : Type} : Left H := { results := [], args := [] }

/-- 'zzlaws_internal_binlog_b1.FnDamagedWrapsItsReadError': WHATEVER THE INPUT: true; the input reads as it did. -/
def fnDamagedWrapsItsReadErrorSpec : ChangeSpec := { name := "fnDamagedWrapsItsReadError", fn := fun _ => fun
  | [d1, d2, d3] => { results := [.lit (.bool true)], args := [d1, d2, d3] }
  | _ => none }
def fnDamagedWrapsItsReadErrorRow : OpenClaim := { program := "qxb6613298afmt", sum := "6455fa34760edc44a766795cda81e17c4e306a0ab3c9e9b1d59792bd78da7ff4", func := "example.com/tandemlog/tandemlog/zzlaws_internal_binlog_b1.FnDamagedWrapsItsReadError", spec := "fnDamagedWrapsItsReadError", stops := ["fmt.errorf, its operands' methods called", "fmt.Sprintf"], inPlace := ["fmt.errorf"], unfollowed := true, recurses := true, apart := false }
/-- NO THEOREM (fmt's text is open here; it may be false): for the released tool's asking of the row's closed facts alone. THE STATEMENT IS 'FnDamagedWrapsItsReadErrorToldSaid' (Qxb6613298aFmtCards.lean). -/
def FnDamagedWrapsItsReadErrorFormAsk : Prop := fnDamagedWrapsItsReadErrorRow.holds Tryf.pinned (OpenSpec.ofChange fnDamagedWrapsItsReadErrorSpec)

/-- ITS FALSE NEIGHBOUR: 'it returns false'. Refute it at one input. -/
def fnDamagedWrapsItsReadErrorWrong : ChangeSpec := { name := "fnDamagedWrapsItsReadError", fn := fun _ => fun
  | [d1, d2, d3] => { results := [.lit (.bool false)], args := [d1, d2, d3] }
  | _ => none }
def FnDamagedWrapsItsReadErrorWrongFormAsk : Prop := fnDamagedWrapsItsReadErrorRow.holds Tryf.pinned (OpenSpec.ofChange fnDamagedWrapsItsReadErrorWrong)

end Rows
end Go.Proofs.Qxb6613298aFmt
