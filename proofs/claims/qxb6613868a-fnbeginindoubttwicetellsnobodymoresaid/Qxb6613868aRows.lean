/-
  No cell of these rows narrows 'for every input' (looked for: loops, veiled, ifaces, maps, wideKeys, modest, calm, conditions, laid).
  DERIVED. THE GIVEN ROWS OF THIS SEAT. 2 by the template 'for every input the law returns true; each argument reads behind the call as it read before'; 0 by the template 'total and deterministic' (their statements: Qxb6613868aTotals.lean).
  GIVEN WITH THE SEED: the statements are not yours to turn. If you find one false, say at which input.
  Laid BY PROGRAM, IN A SANDBOX (cutbox-rows.mjs): the forced cells as the released guide's own fill.sh prints them over the translation d5d16108cc3fa2b6… (all of the seat's roots in one cut). By AI agents, Wed Nov 11 2026. No macro, syntax, notation, axiom, sorry.
-/
import Derived.Test.Qxb6613868aChecked
import GoSem.Claim
import GoSem.ClaimJoined
import GoSem.ClaimMapViews
import Derived.JoinedTies
import Derived.KernelRfl
namespace Go.Proofs.Qxb6613868a
/- THE CELL 'sum', in the pinned program and in every row, IS THE sha256 OF THE DUMP (.gsa) THAT Qxb6613868aProg.lean LOADS. Nothing in Lean hashes anything: it is a label: what it is worth is what the hold of that sum in a sandbox is worth. -/
noncomputable def Try.pinned : Pinned := { name := "qxb6613868a", sum := "d5d16108cc3fa2b673e857ce9fd12ae4909db0b3fa4f330426bbde1d30f36d56", checked := Try.checked }
namespace Rows
def none {H : Type} : Left H := { results := [], args := [] }

/-- 'zzlaws_pkg_core_b1.FnVotingCompleteSinglePhaseFlag': WHATEVER THE INPUT: true; the input reads as it did. -/
def fnVotingCompleteSinglePhaseFlagSpec : ChangeSpec := { name := "fnVotingCompleteSinglePhaseFlag", fn := fun _ => fun
  | [d1, d2] => { results := [.lit (.bool true)], args := [d1, d2] }
  | _ => none }
def fnVotingCompleteSinglePhaseFlagRow : OpenClaim := { program := "qxb6613868a", sum := "d5d16108cc3fa2b673e857ce9fd12ae4909db0b3fa4f330426bbde1d30f36d56", func := "example.com/concordat/concordat/zzlaws_pkg_core_b1.FnVotingCompleteSinglePhaseFlag", spec := "fnVotingCompleteSinglePhaseFlag", unfollowed := true, recurses := true, apart := false }
def FnVotingCompleteSinglePhaseFlagSaid : Prop := fnVotingCompleteSinglePhaseFlagRow.holds Try.pinned (OpenSpec.ofChange fnVotingCompleteSinglePhaseFlagSpec)

/-- ITS FALSE NEIGHBOUR: 'it returns false'. Refute it at one input. -/
def fnVotingCompleteSinglePhaseFlagWrong : ChangeSpec := { name := "fnVotingCompleteSinglePhaseFlag", fn := fun _ => fun
  | [d1, d2] => { results := [.lit (.bool false)], args := [d1, d2] }
  | _ => none }
def FnVotingCompleteSinglePhaseFlagWrongFalsely : Prop := fnVotingCompleteSinglePhaseFlagRow.holds Try.pinned (OpenSpec.ofChange fnVotingCompleteSinglePhaseFlagWrong)

/-- 'zzlaws_pkg_core_b1.FnBeginInDoubtTwiceTellsNobodyMore': WHATEVER THE INPUT: true; the input reads as it did. -/
def fnBeginInDoubtTwiceTellsNobodyMoreSpec : ChangeSpec := { name := "fnBeginInDoubtTwiceTellsNobodyMore", fn := fun _ => fun
  | [d1, d2, d3, d4] => { results := [.lit (.bool true)], args := [d1, d2, d3, d4] }
  | _ => none }
def fnBeginInDoubtTwiceTellsNobodyMoreRow : OpenClaim := { program := "qxb6613868a", sum := "d5d16108cc3fa2b673e857ce9fd12ae4909db0b3fa4f330426bbde1d30f36d56", func := "example.com/concordat/concordat/zzlaws_pkg_core_b1.FnBeginInDoubtTwiceTellsNobodyMore", spec := "fnBeginInDoubtTwiceTellsNobodyMore", apart := false }
def FnBeginInDoubtTwiceTellsNobodyMoreSaid : Prop := fnBeginInDoubtTwiceTellsNobodyMoreRow.holds Try.pinned (OpenSpec.ofChange fnBeginInDoubtTwiceTellsNobodyMoreSpec)

/-- ITS FALSE NEIGHBOUR: 'it returns false'. Refute it at one input. -/
def fnBeginInDoubtTwiceTellsNobodyMoreWrong : ChangeSpec := { name := "fnBeginInDoubtTwiceTellsNobodyMore", fn := fun _ => fun
  | [d1, d2, d3, d4] => { results := [.lit (.bool false)], args := [d1, d2, d3, d4] }
  | _ => none }
def FnBeginInDoubtTwiceTellsNobodyMoreWrongFalsely : Prop := fnBeginInDoubtTwiceTellsNobodyMoreRow.holds Try.pinned (OpenSpec.ofChange fnBeginInDoubtTwiceTellsNobodyMoreWrong)

end Rows
end Go.Proofs.Qxb6613868a
