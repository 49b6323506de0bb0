/-
  No cell of these rows narrows 'for every input' (looked for: loops, veiled, ifaces, maps, wideKeys, modest, calm, conditions, laid).
  DERIVED. THE GIVEN ROWS OF THIS SEAT. 7 by the template 'for every input the law returns true; each argument reads behind the call as it read before'; 0 by the template 'total and deterministic' (their statements: Qxb6600905aModsTotals.lean).
  GIVEN WITH THE SEED: the statements are not yours to turn. If you find one false, say at which input.
  Laid BY PROGRAM, IN A SANDBOX (cutbox-rows.mjs): the forced cells as the released guide's own fill.sh prints them over the translation 5d5e274852bdaebd… (all of the seat's roots in one cut). By AI agents, Wed Nov 11 2026. No macro, syntax, notation, axiom, sorry.
-/
import Derived.Test.Qxb6600905aModsChecked
import GoSem.Claim
import GoSem.ClaimJoined
import GoSem.ClaimMapViews
import Derived.JoinedTies
import Derived.KernelRfl
namespace Go.Proofs.Qxb6600905aMods
/- THE CELL 'sum', in the pinned program and in every row, IS THE sha256 OF THE DUMP (.gsa) THAT Qxb6600905aModsProg.lean LOADS. Nothing in Lean hashes anything: it is a label: what it is worth is what the hold of that sum in a sandbox is worth. -/
noncomputable def Trym.pinned : Pinned := { name := "qxb6600905amods", sum := "5d5e274852bdaebd2c1dbbcc174ea4a8751c6133f49cfa1be7ff8acd17f4a08f", checked := Trym.checked }
namespace Rows
def none {H : Type} : Left H := { results := [], args := [] }

/-- 'zzlaws_root_b1.FnHighestPicksFirstTopScoringLive': WHATEVER THE INPUT: true; the input reads as it did. -/
def fnHighestPicksFirstTopScoringLiveSpec : ChangeSpec := { name := "fnHighestPicksFirstTopScoringLive", fn := fun _ => fun
  | [d1, d2, d3] => { results := [.lit (.bool true)], args := [d1, d2, d3] }
  | _ => none }
def fnHighestPicksFirstTopScoringLiveRow : OpenClaim := { program := "qxb6600905amods", sum := "5d5e274852bdaebd2c1dbbcc174ea4a8751c6133f49cfa1be7ff8acd17f4a08f", func := "example.com/tryst/tryst/zzlaws_root_b1.FnHighestPicksFirstTopScoringLive", spec := "fnHighestPicksFirstTopScoringLive", make := .lifted ["publicsums"], apart := false }
def FnHighestPicksFirstTopScoringLiveSaid : Prop := fnHighestPicksFirstTopScoringLiveRow.holds Trym.pinned (OpenSpec.ofChange fnHighestPicksFirstTopScoringLiveSpec)

/-- ITS FALSE NEIGHBOUR: 'it returns false'. Refute it at one input. -/
def fnHighestPicksFirstTopScoringLiveWrong : ChangeSpec := { name := "fnHighestPicksFirstTopScoringLive", fn := fun _ => fun
  | [d1, d2, d3] => { results := [.lit (.bool false)], args := [d1, d2, d3] }
  | _ => none }
def FnHighestPicksFirstTopScoringLiveWrongFalsely : Prop := fnHighestPicksFirstTopScoringLiveRow.holds Trym.pinned (OpenSpec.ofChange fnHighestPicksFirstTopScoringLiveWrong)

/-- 'zzlaws_root_b1.FnHighestIgnoresACommonXor': WHATEVER THE INPUT: true; the input reads as it did. -/
def fnHighestIgnoresACommonXorSpec : ChangeSpec := { name := "fnHighestIgnoresACommonXor", fn := fun _ => fun
  | [d1, d2, d3, d4] => { results := [.lit (.bool true)], args := [d1, d2, d3, d4] }
  | _ => none }
def fnHighestIgnoresACommonXorRow : OpenClaim := { program := "qxb6600905amods", sum := "5d5e274852bdaebd2c1dbbcc174ea4a8751c6133f49cfa1be7ff8acd17f4a08f", func := "example.com/tryst/tryst/zzlaws_root_b1.FnHighestIgnoresACommonXor", spec := "fnHighestIgnoresACommonXor", make := .lifted ["publicsums"], apart := false }
def FnHighestIgnoresACommonXorSaid : Prop := fnHighestIgnoresACommonXorRow.holds Trym.pinned (OpenSpec.ofChange fnHighestIgnoresACommonXorSpec)

/-- ITS FALSE NEIGHBOUR: 'it returns false'. Refute it at one input. -/
def fnHighestIgnoresACommonXorWrong : ChangeSpec := { name := "fnHighestIgnoresACommonXor", fn := fun _ => fun
  | [d1, d2, d3, d4] => { results := [.lit (.bool false)], args := [d1, d2, d3, d4] }
  | _ => none }
def FnHighestIgnoresACommonXorWrongFalsely : Prop := fnHighestIgnoresACommonXorRow.holds Trym.pinned (OpenSpec.ofChange fnHighestIgnoresACommonXorWrong)

/-- 'zzlaws_root_b1.FnHighestIgnoresDigestsOfDeadNodes': WHATEVER THE INPUT: true; the input reads as it did. -/
def fnHighestIgnoresDigestsOfDeadNodesSpec : ChangeSpec := { name := "fnHighestIgnoresDigestsOfDeadNodes", fn := fun _ => fun
  | [d1, d2, d3, d4] => { results := [.lit (.bool true)], args := [d1, d2, d3, d4] }
  | _ => none }
def fnHighestIgnoresDigestsOfDeadNodesRow : OpenClaim := { program := "qxb6600905amods", sum := "5d5e274852bdaebd2c1dbbcc174ea4a8751c6133f49cfa1be7ff8acd17f4a08f", func := "example.com/tryst/tryst/zzlaws_root_b1.FnHighestIgnoresDigestsOfDeadNodes", spec := "fnHighestIgnoresDigestsOfDeadNodes", make := .lifted ["publicsums"], apart := false }
def FnHighestIgnoresDigestsOfDeadNodesSaid : Prop := fnHighestIgnoresDigestsOfDeadNodesRow.holds Trym.pinned (OpenSpec.ofChange fnHighestIgnoresDigestsOfDeadNodesSpec)

/-- ITS FALSE NEIGHBOUR: 'it returns false'. Refute it at one input. -/
def fnHighestIgnoresDigestsOfDeadNodesWrong : ChangeSpec := { name := "fnHighestIgnoresDigestsOfDeadNodes", fn := fun _ => fun
  | [d1, d2, d3, d4] => { results := [.lit (.bool false)], args := [d1, d2, d3, d4] }
  | _ => none }
def FnHighestIgnoresDigestsOfDeadNodesWrongFalsely : Prop := fnHighestIgnoresDigestsOfDeadNodesRow.holds Trym.pinned (OpenSpec.ofChange fnHighestIgnoresDigestsOfDeadNodesWrong)

/-- 'zzlaws_root_b1.FnClusterGroupsUpMembersByLeafCluster': WHATEVER THE INPUT: true; the input reads as it did. -/
def fnClusterGroupsUpMembersByLeafClusterSpec : ChangeSpec := { name := "fnClusterGroupsUpMembersByLeafCluster", fn := fun _ => fun
  | [d1, d2, d3] => { results := [.lit (.bool true)], args := [d1, d2, d3] }
  | _ => none }
def fnClusterGroupsUpMembersByLeafClusterRow : OpenClaim := { program := "qxb6600905amods", sum := "5d5e274852bdaebd2c1dbbcc174ea4a8751c6133f49cfa1be7ff8acd17f4a08f", func := "example.com/tryst/tryst/zzlaws_root_b1.FnClusterGroupsUpMembersByLeafCluster", spec := "fnClusterGroupsUpMembersByLeafCluster", make := .lifted ["publicsums"], apart := false }
def FnClusterGroupsUpMembersByLeafClusterSaid : Prop := fnClusterGroupsUpMembersByLeafClusterRow.holds Trym.pinned (OpenSpec.ofChange fnClusterGroupsUpMembersByLeafClusterSpec)

/-- ITS FALSE NEIGHBOUR: 'it returns false'. Refute it at one input. -/
def fnClusterGroupsUpMembersByLeafClusterWrong : ChangeSpec := { name := "fnClusterGroupsUpMembersByLeafCluster", fn := fun _ => fun
  | [d1, d2, d3] => { results := [.lit (.bool false)], args := [d1, d2, d3] }
  | _ => none }
def FnClusterGroupsUpMembersByLeafClusterWrongFalsely : Prop := fnClusterGroupsUpMembersByLeafClusterRow.holds Trym.pinned (OpenSpec.ofChange fnClusterGroupsUpMembersByLeafClusterWrong)

/-- 'zzlaws_root_b1.FnClusterTreatsDownMembersAsAbsent': WHATEVER THE INPUT: true; the input reads as it did. -/
def fnClusterTreatsDownMembersAsAbsentSpec : ChangeSpec := { name := "fnClusterTreatsDownMembersAsAbsent", fn := fun _ => fun
  | [d1, d2, d3] => { results := [.lit (.bool true)], args := [d1, d2, d3] }
  | _ => none }
def fnClusterTreatsDownMembersAsAbsentRow : OpenClaim := { program := "qxb6600905amods", sum := "5d5e274852bdaebd2c1dbbcc174ea4a8751c6133f49cfa1be7ff8acd17f4a08f", func := "example.com/tryst/tryst/zzlaws_root_b1.FnClusterTreatsDownMembersAsAbsent", spec := "fnClusterTreatsDownMembersAsAbsent", make := .lifted ["publicsums"], apart := false }
def FnClusterTreatsDownMembersAsAbsentSaid : Prop := fnClusterTreatsDownMembersAsAbsentRow.holds Trym.pinned (OpenSpec.ofChange fnClusterTreatsDownMembersAsAbsentSpec)

/-- ITS FALSE NEIGHBOUR: 'it returns false'. Refute it at one input. -/
def fnClusterTreatsDownMembersAsAbsentWrong : ChangeSpec := { name := "fnClusterTreatsDownMembersAsAbsent", fn := fun _ => fun
  | [d1, d2, d3] => { results := [.lit (.bool false)], args := [d1, d2, d3] }
  | _ => none }
def FnClusterTreatsDownMembersAsAbsentWrongFalsely : Prop := fnClusterTreatsDownMembersAsAbsentRow.holds Trym.pinned (OpenSpec.ofChange fnClusterTreatsDownMembersAsAbsentWrong)

/-- 'zzlaws_root_b1.FnRankedIsTheClusterTheKeyDescendsTo': WHATEVER THE INPUT: true; the input reads as it did. -/
def fnRankedIsTheClusterTheKeyDescendsToSpec : ChangeSpec := { name := "fnRankedIsTheClusterTheKeyDescendsTo", fn := fun _ => fun
  | [d1, d2, d3, d4, d5] => { results := [.lit (.bool true)], args := [d1, d2, d3, d4, d5] }
  | _ => none }
def fnRankedIsTheClusterTheKeyDescendsToRow : OpenClaim := { program := "qxb6600905amods", sum := "5d5e274852bdaebd2c1dbbcc174ea4a8751c6133f49cfa1be7ff8acd17f4a08f", func := "example.com/tryst/tryst/zzlaws_root_b1.FnRankedIsTheClusterTheKeyDescendsTo", spec := "fnRankedIsTheClusterTheKeyDescendsTo", make := .lifted ["publicsums"], apart := false }
def FnRankedIsTheClusterTheKeyDescendsToSaid : Prop := fnRankedIsTheClusterTheKeyDescendsToRow.holds Trym.pinned (OpenSpec.ofChange fnRankedIsTheClusterTheKeyDescendsToSpec)

/-- ITS FALSE NEIGHBOUR: 'it returns false'. Refute it at one input. -/
def fnRankedIsTheClusterTheKeyDescendsToWrong : ChangeSpec := { name := "fnRankedIsTheClusterTheKeyDescendsTo", fn := fun _ => fun
  | [d1, d2, d3, d4, d5] => { results := [.lit (.bool false)], args := [d1, d2, d3, d4, d5] }
  | _ => none }
def FnRankedIsTheClusterTheKeyDescendsToWrongFalsely : Prop := fnRankedIsTheClusterTheKeyDescendsToRow.holds Trym.pinned (OpenSpec.ofChange fnRankedIsTheClusterTheKeyDescendsToWrong)

/-- 'zzlaws_root_b1.FnRankedMarkingDownOnlyRemovesTheNode': WHATEVER THE INPUT: true; the input reads as it did. -/
def fnRankedMarkingDownOnlyRemovesTheNodeSpec : ChangeSpec := { name := "fnRankedMarkingDownOnlyRemovesTheNode", fn := fun _ => fun
  | [d1, d2, d3, d4, d5, d6] => { results := [.lit (.bool true)], args := [d1, d2, d3, d4, d5, d6] }
  | _ => none }
def fnRankedMarkingDownOnlyRemovesTheNodeRow : OpenClaim := { program := "qxb6600905amods", sum := "5d5e274852bdaebd2c1dbbcc174ea4a8751c6133f49cfa1be7ff8acd17f4a08f", func := "example.com/tryst/tryst/zzlaws_root_b1.FnRankedMarkingDownOnlyRemovesTheNode", spec := "fnRankedMarkingDownOnlyRemovesTheNode", make := .lifted ["publicsums"], apart := false }
def FnRankedMarkingDownOnlyRemovesTheNodeSaid : Prop := fnRankedMarkingDownOnlyRemovesTheNodeRow.holds Trym.pinned (OpenSpec.ofChange fnRankedMarkingDownOnlyRemovesTheNodeSpec)

/-- ITS FALSE NEIGHBOUR: 'it returns false'. Refute it at one input. -/
def fnRankedMarkingDownOnlyRemovesTheNodeWrong : ChangeSpec := { name := "fnRankedMarkingDownOnlyRemovesTheNode", fn := fun _ => fun
  | [d1, d2, d3, d4, d5, d6] => { results := [.lit (.bool false)], args := [d1, d2, d3, d4, d5, d6] }
  | _ => none }
def FnRankedMarkingDownOnlyRemovesTheNodeWrongFalsely : Prop := fnRankedMarkingDownOnlyRemovesTheNodeRow.holds Trym.pinned (OpenSpec.ofChange fnRankedMarkingDownOnlyRemovesTheNodeWrong)

end Rows
end Go.Proofs.Qxb6600905aMods
