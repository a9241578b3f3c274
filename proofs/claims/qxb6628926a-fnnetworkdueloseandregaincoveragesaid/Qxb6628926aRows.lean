/-
  No cell of these rows narrows 'for every input' (looked for: loops, veiled, ifaces, maps, wideKeys, modest, calm, conditions, laid).
  DERIVED. THE GIVEN ROWS OF THIS SEAT. 2 by the template 'for every input the law returns true; each argument reads behind the call as it read before'; 0 by the template 'total and deterministic' (their statements: Qxb6628926aTotals.lean).
  GIVEN WITH THE SEED: the statements are not yours to turn. If you find one false, say at which input.
  Laid BY PROGRAM, IN A SANDBOX (cutbox-rows.mjs): the forced cells as the released guide's own fill.sh prints them over the translation 73ae59e9dbdc022b… (all of the seat's roots in one cut). By AI agents, Wed Nov 11 2026. No macro, syntax, notation, axiom, sorry.
-/
import Derived.Test.Qxb6628926aChecked
import GoSem.Claim
import GoSem.ClaimJoined
import GoSem.ClaimMapViews
import Derived.JoinedTies
import Derived.KernelRfl
namespace Go.Proofs.Qxb6628926a
/- THE CELL 'sum', in the pinned program and in every row, IS THE sha256 OF THE DUMP (.gsa) THAT Qxb6628926aProg.lean LOADS. Nothing in Lean hashes anything: it is a label: what it is worth is what the hold of that sum in a sandbox is worth. -/
noncomputable def Try.pinned : Pinned := { name := "qxb6628926a", sum := "73ae59e9dbdc022ba9ad30a5621255baf1c67f4fbb0dcc1087205af807e9b847", checked := Try.checked }
namespace Rows
def none {H : Type} : Left H := { results := [], args := [] }

/-- 'zzlaws_internal_cards_b1.FnNetworkDueSettlesInOneStep': WHATEVER THE INPUT: true; the input reads as it did. -/
def fnNetworkDueSettlesInOneStepSpec : ChangeSpec := { name := "fnNetworkDueSettlesInOneStep", fn := fun _ => fun
  | [d1, d2] => { results := [.lit (.bool true)], args := [d1, d2] }
  | _ => none }
def fnNetworkDueSettlesInOneStepRow : OpenClaim := { program := "qxb6628926a", sum := "73ae59e9dbdc022ba9ad30a5621255baf1c67f4fbb0dcc1087205af807e9b847", func := "example.com/simstead/simstead/zzlaws_internal_cards_b1.FnNetworkDueSettlesInOneStep", spec := "fnNetworkDueSettlesInOneStep", apart := false }
def FnNetworkDueSettlesInOneStepSaid : Prop := fnNetworkDueSettlesInOneStepRow.holds Try.pinned (OpenSpec.ofChange fnNetworkDueSettlesInOneStepSpec)

/-- ITS FALSE NEIGHBOUR: 'it returns false'. Refute it at one input. -/
def fnNetworkDueSettlesInOneStepWrong : ChangeSpec := { name := "fnNetworkDueSettlesInOneStep", fn := fun _ => fun
  | [d1, d2] => { results := [.lit (.bool false)], args := [d1, d2] }
  | _ => none }
def FnNetworkDueSettlesInOneStepWrongFalsely : Prop := fnNetworkDueSettlesInOneStepRow.holds Try.pinned (OpenSpec.ofChange fnNetworkDueSettlesInOneStepWrong)

/-- 'zzlaws_internal_cards_b1.FnNetworkDueLoseAndRegainCoverage': WHATEVER THE INPUT: true; the input reads as it did. -/
def fnNetworkDueLoseAndRegainCoverageSpec : ChangeSpec := { name := "fnNetworkDueLoseAndRegainCoverage", fn := fun _ => fun
  | [d1, d2] => { results := [.lit (.bool true)], args := [d1, d2] }
  | _ => none }
def fnNetworkDueLoseAndRegainCoverageRow : OpenClaim := { program := "qxb6628926a", sum := "73ae59e9dbdc022ba9ad30a5621255baf1c67f4fbb0dcc1087205af807e9b847", func := "example.com/simstead/simstead/zzlaws_internal_cards_b1.FnNetworkDueLoseAndRegainCoverage", spec := "fnNetworkDueLoseAndRegainCoverage", apart := false }
def FnNetworkDueLoseAndRegainCoverageSaid : Prop := fnNetworkDueLoseAndRegainCoverageRow.holds Try.pinned (OpenSpec.ofChange fnNetworkDueLoseAndRegainCoverageSpec)

/-- ITS FALSE NEIGHBOUR: 'it returns false'. Refute it at one input. -/
def fnNetworkDueLoseAndRegainCoverageWrong : ChangeSpec := { name := "fnNetworkDueLoseAndRegainCoverage", fn := fun _ => fun
  | [d1, d2] => { results := [.lit (.bool false)], args := [d1, d2] }
  | _ => none }
def FnNetworkDueLoseAndRegainCoverageWrongFalsely : Prop := fnNetworkDueLoseAndRegainCoverageRow.holds Try.pinned (OpenSpec.ofChange fnNetworkDueLoseAndRegainCoverageWrong)

end Rows
end Go.Proofs.Qxb6628926a
