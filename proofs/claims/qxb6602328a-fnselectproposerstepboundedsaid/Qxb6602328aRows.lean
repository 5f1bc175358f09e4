/-
  No cell of these rows narrows 'for every input' (looked for: loops, veiled, ifaces, maps, wideKeys, modest, calm, conditions, laid).
  DERIVED. THE GIVEN ROWS OF THIS SEAT. 2 by the template 'for every input the law returns true; each argument reads behind the call as it read before'; 0 by the template 'total and deterministic' (their statements: Qxb6602328aTotals.lean).
  GIVEN WITH THE SEED: the statements are not yours to turn. If you find one false, say at which input.
  Laid BY PROGRAM, IN A SANDBOX (cutbox-rows.mjs): the forced cells as the released guide's own fill.sh prints them over the translation 70f1f2bdf87759a3… (all of the seat's roots in one cut). By AI agents, Wed Nov 11 2026. No macro, syntax, notation, axiom, sorry.
-/
import Derived.Test.Qxb6602328aChecked
import GoSem.Claim
import GoSem.ClaimJoined
import GoSem.ClaimMapViews
import Derived.JoinedTies
import Derived.KernelRfl
namespace Go.Proofs.Qxb6602328a
/- THE CELL 'sum', in the pinned program and in every row, IS THE sha256 OF THE DUMP (.gsa) THAT Qxb6602328aProg.lean LOADS. Nothing in Lean hashes anything: it is a label: what it is worth is what the hold of that sum in a sandbox is worth. -/
noncomputable def Try.pinned : Pinned := { name := "qxb6602328a", sum := "70f1f2bdf87759a3bf55224cd33808f5db5765046b81e95ed6c9f38b2067b016", checked := Try.checked }
namespace Rows
def none {H : Type} : Left H := { results := [], args := [] }

/-- 'zzlaws_internal_consensus_b1.FnSelectProposerStepBounded': WHATEVER THE INPUT: true; the input reads as it did. -/
def fnSelectProposerStepBoundedSpec : ChangeSpec := { name := "fnSelectProposerStepBounded", fn := fun _ => fun
  | [d1, d2] => { results := [.lit (.bool true)], args := [d1, d2] }
  | _ => none }
def fnSelectProposerStepBoundedRow : OpenClaim := { program := "qxb6602328a", sum := "70f1f2bdf87759a3bf55224cd33808f5db5765046b81e95ed6c9f38b2067b016", func := "example.com/roundlock/roundlock/zzlaws_internal_consensus_b1.FnSelectProposerStepBounded", spec := "fnSelectProposerStepBounded", apart := false }
def FnSelectProposerStepBoundedSaid : Prop := fnSelectProposerStepBoundedRow.holds Try.pinned (OpenSpec.ofChange fnSelectProposerStepBoundedSpec)

/-- ITS FALSE NEIGHBOUR: 'it returns false'. Refute it at one input. -/
def fnSelectProposerStepBoundedWrong : ChangeSpec := { name := "fnSelectProposerStepBounded", fn := fun _ => fun
  | [d1, d2] => { results := [.lit (.bool false)], args := [d1, d2] }
  | _ => none }
def FnSelectProposerStepBoundedWrongFalsely : Prop := fnSelectProposerStepBoundedRow.holds Try.pinned (OpenSpec.ofChange fnSelectProposerStepBoundedWrong)

/-- 'zzlaws_internal_consensus_b1.FnSelectProposerEqualPowersRoundRobin': WHATEVER THE INPUT: true; the input reads as it did. -/
def fnSelectProposerEqualPowersRoundRobinSpec : ChangeSpec := { name := "fnSelectProposerEqualPowersRoundRobin", fn := fun _ => fun
  | [d1, d2, d3] => { results := [.lit (.bool true)], args := [d1, d2, d3] }
  | _ => none }
def fnSelectProposerEqualPowersRoundRobinRow : OpenClaim := { program := "qxb6602328a", sum := "70f1f2bdf87759a3bf55224cd33808f5db5765046b81e95ed6c9f38b2067b016", func := "example.com/roundlock/roundlock/zzlaws_internal_consensus_b1.FnSelectProposerEqualPowersRoundRobin", spec := "fnSelectProposerEqualPowersRoundRobin", apart := false }
def FnSelectProposerEqualPowersRoundRobinSaid : Prop := fnSelectProposerEqualPowersRoundRobinRow.holds Try.pinned (OpenSpec.ofChange fnSelectProposerEqualPowersRoundRobinSpec)

/-- ITS FALSE NEIGHBOUR: 'it returns false'. Refute it at one input. -/
def fnSelectProposerEqualPowersRoundRobinWrong : ChangeSpec := { name := "fnSelectProposerEqualPowersRoundRobin", fn := fun _ => fun
  | [d1, d2, d3] => { results := [.lit (.bool false)], args := [d1, d2, d3] }
  | _ => none }
def FnSelectProposerEqualPowersRoundRobinWrongFalsely : Prop := fnSelectProposerEqualPowersRoundRobinRow.holds Try.pinned (OpenSpec.ofChange fnSelectProposerEqualPowersRoundRobinWrong)

end Rows
end Go.Proofs.Qxb6602328a
