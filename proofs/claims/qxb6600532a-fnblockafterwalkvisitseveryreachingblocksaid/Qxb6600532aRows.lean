/-
  No cell of these rows narrows 'for every input' (looked for: loops, veiled, ifaces, maps, wideKeys, modest, calm, conditions, laid).
  DERIVED. THE GIVEN ROWS OF THIS SEAT. 4 by the template 'for every input the law returns true; each argument reads behind the call as it read before'; 0 by the template 'total and deterministic' (their statements: Qxb6600532aTotals.lean).
  GIVEN WITH THE SEED: the statements are not yours to turn. If you find one false, say at which input.
  Laid BY PROGRAM, IN A SANDBOX (cutbox-rows.mjs): the forced cells as the released guide's own fill.sh prints them over the translation 4b6588ad5c83fa56… (all of the seat's roots in one cut). By AI agents, Wed Nov 11 2026. No macro, syntax, notation, axiom, sorry.
-/
import Derived.Test.Qxb6600532aChecked
import GoSem.Claim
import GoSem.ClaimJoined
import GoSem.ClaimMapViews
import Derived.JoinedTies
import Derived.KernelRfl
namespace Go.Proofs.Qxb6600532a
/- THE CELL 'sum', in the pinned program and in every row, IS THE sha256 OF THE DUMP (.gsa) THAT Qxb6600532aProg.lean LOADS. Nothing in Lean hashes anything: it is a label: what it is worth is what the hold of that sum in a sandbox is worth. -/
noncomputable def Try.pinned : Pinned := { name := "qxb6600532a", sum := "4b6588ad5c83fa56003767329b8869115d88cc58693c92eda2856a441a80a4d5", checked := Try.checked }
namespace Rows
def none {H : Type} : Left H := { results := [], args := [] }

/-- 'zzlaws_internal_jcs_b1.FnBlockAfterIsFirstReachingBlock': WHATEVER THE INPUT: true; the input reads as it did. -/
def fnBlockAfterIsFirstReachingBlockSpec : ChangeSpec := { name := "fnBlockAfterIsFirstReachingBlock", fn := fun _ => fun
  | [d1, d2, d3] => { results := [.lit (.bool true)], args := [d1, d2, d3] }
  | _ => none }
def fnBlockAfterIsFirstReachingBlockRow : OpenClaim := { program := "qxb6600532a", sum := "4b6588ad5c83fa56003767329b8869115d88cc58693c92eda2856a441a80a4d5", func := "example.com/vetter/vetter/zzlaws_internal_jcs_b1.FnBlockAfterIsFirstReachingBlock", spec := "fnBlockAfterIsFirstReachingBlock", unfollowed := true, recurses := true, apart := false }
def FnBlockAfterIsFirstReachingBlockSaid : Prop := fnBlockAfterIsFirstReachingBlockRow.holds Try.pinned (OpenSpec.ofChange fnBlockAfterIsFirstReachingBlockSpec)

/-- ITS FALSE NEIGHBOUR: 'it returns false'. Refute it at one input. -/
def fnBlockAfterIsFirstReachingBlockWrong : ChangeSpec := { name := "fnBlockAfterIsFirstReachingBlock", fn := fun _ => fun
  | [d1, d2, d3] => { results := [.lit (.bool false)], args := [d1, d2, d3] }
  | _ => none }
def FnBlockAfterIsFirstReachingBlockWrongFalsely : Prop := fnBlockAfterIsFirstReachingBlockRow.holds Try.pinned (OpenSpec.ofChange fnBlockAfterIsFirstReachingBlockWrong)

/-- 'zzlaws_internal_jcs_b1.FnBlockAfterNoLaterFromEarlierOrDeeper': WHATEVER THE INPUT: true; the input reads as it did. -/
def fnBlockAfterNoLaterFromEarlierOrDeeperSpec : ChangeSpec := { name := "fnBlockAfterNoLaterFromEarlierOrDeeper", fn := fun _ => fun
  | [d1, d2, d3, d4, d5] => { results := [.lit (.bool true)], args := [d1, d2, d3, d4, d5] }
  | _ => none }
def fnBlockAfterNoLaterFromEarlierOrDeeperRow : OpenClaim := { program := "qxb6600532a", sum := "4b6588ad5c83fa56003767329b8869115d88cc58693c92eda2856a441a80a4d5", func := "example.com/vetter/vetter/zzlaws_internal_jcs_b1.FnBlockAfterNoLaterFromEarlierOrDeeper", spec := "fnBlockAfterNoLaterFromEarlierOrDeeper", unfollowed := true, recurses := true, apart := false }
def FnBlockAfterNoLaterFromEarlierOrDeeperSaid : Prop := fnBlockAfterNoLaterFromEarlierOrDeeperRow.holds Try.pinned (OpenSpec.ofChange fnBlockAfterNoLaterFromEarlierOrDeeperSpec)

/-- ITS FALSE NEIGHBOUR: 'it returns false'. Refute it at one input. -/
def fnBlockAfterNoLaterFromEarlierOrDeeperWrong : ChangeSpec := { name := "fnBlockAfterNoLaterFromEarlierOrDeeper", fn := fun _ => fun
  | [d1, d2, d3, d4, d5] => { results := [.lit (.bool false)], args := [d1, d2, d3, d4, d5] }
  | _ => none }
def FnBlockAfterNoLaterFromEarlierOrDeeperWrongFalsely : Prop := fnBlockAfterNoLaterFromEarlierOrDeeperRow.holds Try.pinned (OpenSpec.ofChange fnBlockAfterNoLaterFromEarlierOrDeeperWrong)

/-- 'zzlaws_internal_jcs_b1.FnBlockAfterWalkVisitsEveryReachingBlock': WHATEVER THE INPUT: true; the input reads as it did. -/
def fnBlockAfterWalkVisitsEveryReachingBlockSpec : ChangeSpec := { name := "fnBlockAfterWalkVisitsEveryReachingBlock", fn := fun _ => fun
  | [d1, d2] => { results := [.lit (.bool true)], args := [d1, d2] }
  | _ => none }
def fnBlockAfterWalkVisitsEveryReachingBlockRow : OpenClaim := { program := "qxb6600532a", sum := "4b6588ad5c83fa56003767329b8869115d88cc58693c92eda2856a441a80a4d5", func := "example.com/vetter/vetter/zzlaws_internal_jcs_b1.FnBlockAfterWalkVisitsEveryReachingBlock", spec := "fnBlockAfterWalkVisitsEveryReachingBlock", unfollowed := true, recurses := true, apart := false }
def FnBlockAfterWalkVisitsEveryReachingBlockSaid : Prop := fnBlockAfterWalkVisitsEveryReachingBlockRow.holds Try.pinned (OpenSpec.ofChange fnBlockAfterWalkVisitsEveryReachingBlockSpec)

/-- ITS FALSE NEIGHBOUR: 'it returns false'. Refute it at one input. -/
def fnBlockAfterWalkVisitsEveryReachingBlockWrong : ChangeSpec := { name := "fnBlockAfterWalkVisitsEveryReachingBlock", fn := fun _ => fun
  | [d1, d2] => { results := [.lit (.bool false)], args := [d1, d2] }
  | _ => none }
def FnBlockAfterWalkVisitsEveryReachingBlockWrongFalsely : Prop := fnBlockAfterWalkVisitsEveryReachingBlockRow.holds Try.pinned (OpenSpec.ofChange fnBlockAfterWalkVisitsEveryReachingBlockWrong)

/-- 'zzlaws_internal_jcs_b1.FnKindIsSetByFirstByteAlone': WHATEVER THE INPUT: true; the input reads as it did. -/
def fnKindIsSetByFirstByteAloneSpec : ChangeSpec := { name := "fnKindIsSetByFirstByteAlone", fn := fun _ => fun
  | [d1, d2] => { results := [.lit (.bool true)], args := [d1, d2] }
  | _ => none }
def fnKindIsSetByFirstByteAloneRow : OpenClaim := { program := "qxb6600532a", sum := "4b6588ad5c83fa56003767329b8869115d88cc58693c92eda2856a441a80a4d5", func := "example.com/vetter/vetter/zzlaws_internal_jcs_b1.FnKindIsSetByFirstByteAlone", spec := "fnKindIsSetByFirstByteAlone", apart := false }
def FnKindIsSetByFirstByteAloneSaid : Prop := fnKindIsSetByFirstByteAloneRow.holds Try.pinned (OpenSpec.ofChange fnKindIsSetByFirstByteAloneSpec)

/-- ITS FALSE NEIGHBOUR: 'it returns false'. Refute it at one input. -/
def fnKindIsSetByFirstByteAloneWrong : ChangeSpec := { name := "fnKindIsSetByFirstByteAlone", fn := fun _ => fun
  | [d1, d2] => { results := [.lit (.bool false)], args := [d1, d2] }
  | _ => none }
def FnKindIsSetByFirstByteAloneWrongFalsely : Prop := fnKindIsSetByFirstByteAloneRow.holds Try.pinned (OpenSpec.ofChange fnKindIsSetByFirstByteAloneWrong)

end Rows
end Go.Proofs.Qxb6600532a
