/-
  No cell of these rows narrows 'for every input' (looked for: loops, veiled, ifaces, maps, wideKeys, modest, calm, conditions, laid).
  DERIVED. THE GIVEN ROWS OF THIS SEAT. 2 by the template 'for every input the law returns true; each argument reads behind the call as it read before'; 0 by the template 'total and deterministic' (their statements: Qxb6630290aTotals.lean).
  GIVEN WITH THE SEED: the statements are not yours to turn. If you find one false, say at which input.
  Laid BY PROGRAM, IN A SANDBOX (cutbox-rows.mjs): the forced cells as the released guide's own fill.sh prints them over the translation ee586aa8eae79c5f… (all of the seat's roots in one cut). By AI agents, Wed Nov 11 2026. No macro, syntax, notation, axiom, sorry.
-/
import Derived.Test.Qxb6630290aChecked
import GoSem.Claim
import GoSem.ClaimJoined
import GoSem.ClaimMapViews
import Derived.JoinedTies
import Derived.KernelRfl
namespace Go.Proofs.Qxb6630290a
/- THE CELL 'sum', in the pinned program and in every row, IS THE sha256 OF THE DUMP (.gsa) THAT Qxb6630290aProg.lean LOADS. Nothing in Lean hashes anything: it is a label: what it is worth is what the hold of that sum in a sandbox is worth. -/
noncomputable def Try.pinned : Pinned := { name := "qxb6630290a", sum := "ee586aa8eae79c5f3b2564b197ae9ac79d12ae57423a378030219d76592c37cf", checked := Try.checked }
namespace Rows
def none {H : Type} : Left H := { results := [], args := [] }

/-- 'zzlaws_topology_b1.FnQuorumStepsOneEveryTwoReplicas': WHATEVER THE INPUT: true; the input reads as it did. -/
def fnQuorumStepsOneEveryTwoReplicasSpec : ChangeSpec := { name := "fnQuorumStepsOneEveryTwoReplicas", fn := fun _ => fun
  | [d1, d2] => { results := [.lit (.bool true)], args := [d1, d2] }
  | _ => none }
def fnQuorumStepsOneEveryTwoReplicasRow : OpenClaim := { program := "qxb6630290a", sum := "ee586aa8eae79c5f3b2564b197ae9ac79d12ae57423a378030219d76592c37cf", func := "example.com/ringmirror/ringmirror/zzlaws_topology_b1.FnQuorumStepsOneEveryTwoReplicas", spec := "fnQuorumStepsOneEveryTwoReplicas", apart := false }
def FnQuorumStepsOneEveryTwoReplicasSaid : Prop := fnQuorumStepsOneEveryTwoReplicasRow.holds Try.pinned (OpenSpec.ofChange fnQuorumStepsOneEveryTwoReplicasSpec)

/-- ITS FALSE NEIGHBOUR: 'it returns false'. Refute it at one input. -/
def fnQuorumStepsOneEveryTwoReplicasWrong : ChangeSpec := { name := "fnQuorumStepsOneEveryTwoReplicas", fn := fun _ => fun
  | [d1, d2] => { results := [.lit (.bool false)], args := [d1, d2] }
  | _ => none }
def FnQuorumStepsOneEveryTwoReplicasWrongFalsely : Prop := fnQuorumStepsOneEveryTwoReplicasRow.holds Try.pinned (OpenSpec.ofChange fnQuorumStepsOneEveryTwoReplicasWrong)

/-- 'zzlaws_topology_b1.FnQuorumOfJoinedGroups': WHATEVER THE INPUT: true; the input reads as it did. -/
def fnQuorumOfJoinedGroupsSpec : ChangeSpec := { name := "fnQuorumOfJoinedGroups", fn := fun _ => fun
  | [d1, d2, d3] => { results := [.lit (.bool true)], args := [d1, d2, d3] }
  | _ => none }
def fnQuorumOfJoinedGroupsRow : OpenClaim := { program := "qxb6630290a", sum := "ee586aa8eae79c5f3b2564b197ae9ac79d12ae57423a378030219d76592c37cf", func := "example.com/ringmirror/ringmirror/zzlaws_topology_b1.FnQuorumOfJoinedGroups", spec := "fnQuorumOfJoinedGroups", apart := false }
def FnQuorumOfJoinedGroupsSaid : Prop := fnQuorumOfJoinedGroupsRow.holds Try.pinned (OpenSpec.ofChange fnQuorumOfJoinedGroupsSpec)

/-- ITS FALSE NEIGHBOUR: 'it returns false'. Refute it at one input. -/
def fnQuorumOfJoinedGroupsWrong : ChangeSpec := { name := "fnQuorumOfJoinedGroups", fn := fun _ => fun
  | [d1, d2, d3] => { results := [.lit (.bool false)], args := [d1, d2, d3] }
  | _ => none }
def FnQuorumOfJoinedGroupsWrongFalsely : Prop := fnQuorumOfJoinedGroupsRow.holds Try.pinned (OpenSpec.ofChange fnQuorumOfJoinedGroupsWrong)

end Rows
end Go.Proofs.Qxb6630290a
