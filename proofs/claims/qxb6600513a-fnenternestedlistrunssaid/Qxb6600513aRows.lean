/-
  No cell of these rows narrows 'for every input' (looked for: loops, veiled, ifaces, maps, wideKeys, modest, calm, conditions, laid).
  DERIVED. THE GIVEN ROWS OF THIS SEAT. 4 by the template 'for every input the law returns true; each argument reads behind the call as it read before'; 0 by the template 'total and deterministic' (their statements: Qxb6600513aTotals.lean).
  GIVEN WITH THE SEED: the statements are not yours to turn. If you find one false, say at which input.
  Laid BY PROGRAM, IN A SANDBOX (cutbox-rows.mjs): the forced cells as the released guide's own fill.sh prints them over the translation 3210d5e4920ae5da… (all of the seat's roots in one cut). By AI agents, Wed Nov 11 2026. No macro, syntax, notation, axiom, sorry.
-/
import Derived.Test.Qxb6600513aChecked
import GoSem.Claim
import GoSem.ClaimJoined
import GoSem.ClaimMapViews
import Derived.JoinedTies
import Derived.KernelRfl
namespace Go.Proofs.Qxb6600513a
/- THE CELL 'sum', in the pinned program and in every row, IS THE sha256 OF THE DUMP (.gsa) THAT Qxb6600513aProg.lean LOADS. Nothing in Lean hashes anything: it is a label: what it is worth is what the hold of that sum in a sandbox is worth. -/
noncomputable def Try.pinned : Pinned := { name := "qxb6600513a", sum := "3210d5e4920ae5dac29152ad44dc6c1cd2305d110b42e9d30f436230ebc6e25e", checked := Try.checked }
namespace Rows
def none {H : Type} : Left H := { results := [], args := [] }

/-- 'zzlaws_policy_b1.FnLineBreaksClosedForm': WHATEVER THE INPUT: true; the input reads as it did. -/
def fnLineBreaksClosedFormSpec : ChangeSpec := { name := "fnLineBreaksClosedForm", fn := fun _ => fun
  | [d] => { results := [.lit (.bool true)], args := [d] }
  | _ => none }
def fnLineBreaksClosedFormRow : OpenClaim := { program := "qxb6600513a", sum := "3210d5e4920ae5dac29152ad44dc6c1cd2305d110b42e9d30f436230ebc6e25e", func := "example.com/measured-autoscaler/measured-autoscaler/zzlaws_policy_b1.FnLineBreaksClosedForm", spec := "fnLineBreaksClosedForm", apart := false }
def FnLineBreaksClosedFormSaid : Prop := fnLineBreaksClosedFormRow.holds Try.pinned (OpenSpec.ofChange fnLineBreaksClosedFormSpec)

/-- ITS FALSE NEIGHBOUR: 'it returns false'. Refute it at one input. -/
def fnLineBreaksClosedFormWrong : ChangeSpec := { name := "fnLineBreaksClosedForm", fn := fun _ => fun
  | [d] => { results := [.lit (.bool false)], args := [d] }
  | _ => none }
def FnLineBreaksClosedFormWrongFalsely : Prop := fnLineBreaksClosedFormRow.holds Try.pinned (OpenSpec.ofChange fnLineBreaksClosedFormWrong)

/-- 'zzlaws_policy_b1.FnLineBreaksSplitAtLineFeed': WHATEVER THE INPUT: true; the input reads as it did. -/
def fnLineBreaksSplitAtLineFeedSpec : ChangeSpec := { name := "fnLineBreaksSplitAtLineFeed", fn := fun _ => fun
  | [d1, d2] => { results := [.lit (.bool true)], args := [d1, d2] }
  | _ => none }
def fnLineBreaksSplitAtLineFeedRow : OpenClaim := { program := "qxb6600513a", sum := "3210d5e4920ae5dac29152ad44dc6c1cd2305d110b42e9d30f436230ebc6e25e", func := "example.com/measured-autoscaler/measured-autoscaler/zzlaws_policy_b1.FnLineBreaksSplitAtLineFeed", spec := "fnLineBreaksSplitAtLineFeed", apart := false }
def FnLineBreaksSplitAtLineFeedSaid : Prop := fnLineBreaksSplitAtLineFeedRow.holds Try.pinned (OpenSpec.ofChange fnLineBreaksSplitAtLineFeedSpec)

/-- ITS FALSE NEIGHBOUR: 'it returns false'. Refute it at one input. -/
def fnLineBreaksSplitAtLineFeedWrong : ChangeSpec := { name := "fnLineBreaksSplitAtLineFeed", fn := fun _ => fun
  | [d1, d2] => { results := [.lit (.bool false)], args := [d1, d2] }
  | _ => none }
def FnLineBreaksSplitAtLineFeedWrongFalsely : Prop := fnLineBreaksSplitAtLineFeedRow.holds Try.pinned (OpenSpec.ofChange fnLineBreaksSplitAtLineFeedWrong)

/-- 'zzlaws_policy_b1.FnEnterTopListSetsTargets': WHATEVER THE INPUT: true; the input reads as it did. -/
def fnEnterTopListSetsTargetsSpec : ChangeSpec := { name := "fnEnterTopListSetsTargets", fn := fun _ => fun
  | [d1, d2, d3, d4, d5, d6] => { results := [.lit (.bool true)], args := [d1, d2, d3, d4, d5, d6] }
  | _ => none }
def fnEnterTopListSetsTargetsRow : OpenClaim := { program := "qxb6600513a", sum := "3210d5e4920ae5dac29152ad44dc6c1cd2305d110b42e9d30f436230ebc6e25e", func := "example.com/measured-autoscaler/measured-autoscaler/zzlaws_policy_b1.FnEnterTopListSetsTargets", spec := "fnEnterTopListSetsTargets", apart := false }
def FnEnterTopListSetsTargetsSaid : Prop := fnEnterTopListSetsTargetsRow.holds Try.pinned (OpenSpec.ofChange fnEnterTopListSetsTargetsSpec)

/-- ITS FALSE NEIGHBOUR: 'it returns false'. Refute it at one input. -/
def fnEnterTopListSetsTargetsWrong : ChangeSpec := { name := "fnEnterTopListSetsTargets", fn := fun _ => fun
  | [d1, d2, d3, d4, d5, d6] => { results := [.lit (.bool false)], args := [d1, d2, d3, d4, d5, d6] }
  | _ => none }
def FnEnterTopListSetsTargetsWrongFalsely : Prop := fnEnterTopListSetsTargetsRow.holds Try.pinned (OpenSpec.ofChange fnEnterTopListSetsTargetsWrong)

/-- 'zzlaws_policy_b1.FnEnterNestedListRuns': WHATEVER THE INPUT: true; the input reads as it did. -/
def fnEnterNestedListRunsSpec : ChangeSpec := { name := "fnEnterNestedListRuns", fn := fun _ => fun
  | [d1, d2, d3, d4] => { results := [.lit (.bool true)], args := [d1, d2, d3, d4] }
  | _ => none }
def fnEnterNestedListRunsRow : OpenClaim := { program := "qxb6600513a", sum := "3210d5e4920ae5dac29152ad44dc6c1cd2305d110b42e9d30f436230ebc6e25e", func := "example.com/measured-autoscaler/measured-autoscaler/zzlaws_policy_b1.FnEnterNestedListRuns", spec := "fnEnterNestedListRuns", apart := false }
def FnEnterNestedListRunsSaid : Prop := fnEnterNestedListRunsRow.holds Try.pinned (OpenSpec.ofChange fnEnterNestedListRunsSpec)

/-- ITS FALSE NEIGHBOUR: 'it returns false'. Refute it at one input. -/
def fnEnterNestedListRunsWrong : ChangeSpec := { name := "fnEnterNestedListRuns", fn := fun _ => fun
  | [d1, d2, d3, d4] => { results := [.lit (.bool false)], args := [d1, d2, d3, d4] }
  | _ => none }
def FnEnterNestedListRunsWrongFalsely : Prop := fnEnterNestedListRunsRow.holds Try.pinned (OpenSpec.ofChange fnEnterNestedListRunsWrong)

end Rows
end Go.Proofs.Qxb6600513a
