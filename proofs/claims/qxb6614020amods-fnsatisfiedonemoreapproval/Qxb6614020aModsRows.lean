/-
  No cell of these rows narrows 'for every input' (looked for: loops, veiled, ifaces, maps, wideKeys, modest, calm, conditions, laid).
  DERIVED. THE GIVEN ROWS OF THIS SEAT. 4 by the template 'for every input the law returns true; each argument reads behind the call as it read before'; 0 by the template 'total and deterministic' (their statements: Qxb6614020aModsTotals.lean).
  GIVEN WITH THE SEED: the statements are not yours to turn. If you find one false, say at which input.
  Laid BY PROGRAM, IN A SANDBOX (cutbox-rows.mjs): the forced cells as the released guide's own fill.sh prints them over the translation 309d70f4ac5e5a4e… (all of the seat's roots in one cut). By AI agents, Wed Nov 11 2026. No macro, syntax, notation, axiom, sorry.
-/
import Derived.Test.Qxb6614020aModsChecked
import GoSem.Claim
import GoSem.ClaimJoined
import GoSem.ClaimMapViews
import Derived.JoinedTies
import Derived.KernelRfl
namespace Go.Proofs.Qxb6614020aMods
/- THE CELL 'sum', in the pinned program and in every row, IS THE sha256 OF THE DUMP (.gsa) THAT Qxb6614020aModsProg.lean LOADS. Nothing in Lean hashes anything: it is a label: what it is worth is what the hold of that sum in a sandbox is worth. -/
noncomputable def Trym.pinned : Pinned := { name := "qxb6614020amods", sum := "309d70f4ac5e5a4eb525690ee9579237f3a8f8d821fcf83f3ef693727de7d243", checked := Trym.checked }
namespace Rows
def none {H : Type} : Left H := { results := [], args := [] }

/-- 'zzlaws_pkg_store_b1.FnSatisfiedQuorumThreshold': WHATEVER THE INPUT: true; the input reads as it did. -/
def fnSatisfiedQuorumThresholdSpec : ChangeSpec := { name := "fnSatisfiedQuorumThreshold", fn := fun _ => fun
  | [d1, d2, d3, d4, d5, d6, d7] => { results := [.lit (.bool true)], args := [d1, d2, d3, d4, d5, d6, d7] }
  | _ => none }
def fnSatisfiedQuorumThresholdRow : OpenClaim := { program := "qxb6614020amods", sum := "309d70f4ac5e5a4eb525690ee9579237f3a8f8d821fcf83f3ef693727de7d243", func := "example.com/stagekeeper/stagekeeper/zzlaws_pkg_store_b1.FnSatisfiedQuorumThreshold", spec := "fnSatisfiedQuorumThreshold", make := .lifted ["publicsums"], apart := false }
def FnSatisfiedQuorumThresholdSaid : Prop := fnSatisfiedQuorumThresholdRow.holds Trym.pinned (OpenSpec.ofChange fnSatisfiedQuorumThresholdSpec)

/-- ITS FALSE NEIGHBOUR: 'it returns false'. Refute it at one input. -/
def fnSatisfiedQuorumThresholdWrong : ChangeSpec := { name := "fnSatisfiedQuorumThreshold", fn := fun _ => fun
  | [d1, d2, d3, d4, d5, d6, d7] => { results := [.lit (.bool false)], args := [d1, d2, d3, d4, d5, d6, d7] }
  | _ => none }
def FnSatisfiedQuorumThresholdWrongFalsely : Prop := fnSatisfiedQuorumThresholdRow.holds Trym.pinned (OpenSpec.ofChange fnSatisfiedQuorumThresholdWrong)

/-- 'zzlaws_pkg_store_b1.FnSatisfiedOneMoreApproval': WHATEVER THE INPUT: true; the input reads as it did. -/
def fnSatisfiedOneMoreApprovalSpec : ChangeSpec := { name := "fnSatisfiedOneMoreApproval", fn := fun _ => fun
  | [d1, d2, d3, d4, d5, d6, d7, d8] => { results := [.lit (.bool true)], args := [d1, d2, d3, d4, d5, d6, d7, d8] }
  | _ => none }
def fnSatisfiedOneMoreApprovalRow : OpenClaim := { program := "qxb6614020amods", sum := "309d70f4ac5e5a4eb525690ee9579237f3a8f8d821fcf83f3ef693727de7d243", func := "example.com/stagekeeper/stagekeeper/zzlaws_pkg_store_b1.FnSatisfiedOneMoreApproval", spec := "fnSatisfiedOneMoreApproval", make := .lifted ["publicsums"], apart := false }
def FnSatisfiedOneMoreApprovalSaid : Prop := fnSatisfiedOneMoreApprovalRow.holds Trym.pinned (OpenSpec.ofChange fnSatisfiedOneMoreApprovalSpec)

/-- ITS FALSE NEIGHBOUR: 'it returns false'. Refute it at one input. -/
def fnSatisfiedOneMoreApprovalWrong : ChangeSpec := { name := "fnSatisfiedOneMoreApproval", fn := fun _ => fun
  | [d1, d2, d3, d4, d5, d6, d7, d8] => { results := [.lit (.bool false)], args := [d1, d2, d3, d4, d5, d6, d7, d8] }
  | _ => none }
def FnSatisfiedOneMoreApprovalWrongFalsely : Prop := fnSatisfiedOneMoreApprovalRow.holds Trym.pinned (OpenSpec.ofChange fnSatisfiedOneMoreApprovalWrong)

/-- 'zzlaws_pkg_store_b1.FnEditsReplayGivesTo': WHATEVER THE INPUT: true; the input reads as it did. -/
def fnEditsReplayGivesToSpec : ChangeSpec := { name := "fnEditsReplayGivesTo", fn := fun _ => fun
  | [d1, d2] => { results := [.lit (.bool true)], args := [d1, d2] }
  | _ => none }
def fnEditsReplayGivesToRow : OpenClaim := { program := "qxb6614020amods", sum := "309d70f4ac5e5a4eb525690ee9579237f3a8f8d821fcf83f3ef693727de7d243", func := "example.com/stagekeeper/stagekeeper/zzlaws_pkg_store_b1.FnEditsReplayGivesTo", spec := "fnEditsReplayGivesTo", inPlace := ["internal/bytealg.IndexByte"], unfollowed := true, recurses := true, make := .lifted ["publicsums"], apart := false }
def FnEditsReplayGivesToSaid : Prop := fnEditsReplayGivesToRow.holds Trym.pinned (OpenSpec.ofChange fnEditsReplayGivesToSpec)

/-- ITS FALSE NEIGHBOUR: 'it returns false'. Refute it at one input. -/
def fnEditsReplayGivesToWrong : ChangeSpec := { name := "fnEditsReplayGivesTo", fn := fun _ => fun
  | [d1, d2] => { results := [.lit (.bool false)], args := [d1, d2] }
  | _ => none }
def FnEditsReplayGivesToWrongFalsely : Prop := fnEditsReplayGivesToRow.holds Trym.pinned (OpenSpec.ofChange fnEditsReplayGivesToWrong)

/-- 'zzlaws_pkg_store_b1.FnEditsSameTextAndFromEmpty': WHATEVER THE INPUT: true; the input reads as it did. -/
def fnEditsSameTextAndFromEmptySpec : ChangeSpec := { name := "fnEditsSameTextAndFromEmpty", fn := fun _ => fun
  | [d] => { results := [.lit (.bool true)], args := [d] }
  | _ => none }
def fnEditsSameTextAndFromEmptyRow : OpenClaim := { program := "qxb6614020amods", sum := "309d70f4ac5e5a4eb525690ee9579237f3a8f8d821fcf83f3ef693727de7d243", func := "example.com/stagekeeper/stagekeeper/zzlaws_pkg_store_b1.FnEditsSameTextAndFromEmpty", spec := "fnEditsSameTextAndFromEmpty", inPlace := ["internal/bytealg.IndexByte"], unfollowed := true, recurses := true, make := .lifted ["publicsums"], apart := false }
def FnEditsSameTextAndFromEmptySaid : Prop := fnEditsSameTextAndFromEmptyRow.holds Trym.pinned (OpenSpec.ofChange fnEditsSameTextAndFromEmptySpec)

/-- ITS FALSE NEIGHBOUR: 'it returns false'. Refute it at one input. -/
def fnEditsSameTextAndFromEmptyWrong : ChangeSpec := { name := "fnEditsSameTextAndFromEmpty", fn := fun _ => fun
  | [d] => { results := [.lit (.bool false)], args := [d] }
  | _ => none }
def FnEditsSameTextAndFromEmptyWrongFalsely : Prop := fnEditsSameTextAndFromEmptyRow.holds Trym.pinned (OpenSpec.ofChange fnEditsSameTextAndFromEmptyWrong)

end Rows
end Go.Proofs.Qxb6614020aMods
