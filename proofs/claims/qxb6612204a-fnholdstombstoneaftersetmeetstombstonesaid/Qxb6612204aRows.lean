/-
  No cell of these rows narrows 'for every input' (looked for: loops, veiled, ifaces, maps, wideKeys, modest, calm, conditions, laid).
  DERIVED. THE GIVEN ROWS OF THIS SEAT. 5 by the template 'for every input the law returns true; each argument reads behind the call as it read before'; 0 by the template 'total and deterministic' (their statements: Qxb6612204aTotals.lean).
  GIVEN WITH THE SEED: the statements are not yours to turn. If you find one false, say at which input.
  Laid BY PROGRAM, IN A SANDBOX (cutbox-rows.mjs): the forced cells as the released guide's own fill.sh prints them over the translation f13b476398f2e0db… (all of the seat's roots in one cut). By AI agents, Wed Nov 11 2026. No macro, syntax, notation, axiom, sorry.
-/
import Derived.Test.Qxb6612204aChecked
import GoSem.Claim
import GoSem.ClaimJoined
import GoSem.ClaimMapViews
import Derived.JoinedTies
import Derived.KernelRfl
namespace Go.Proofs.Qxb6612204a
/- THE CELL 'sum', in the pinned program and in every row, IS THE sha256 OF THE DUMP (.gsa) THAT Qxb6612204aProg.lean LOADS. Nothing in Lean hashes anything: it is a label: what it is worth is what the hold of that sum in a sandbox is worth. -/
noncomputable def Try.pinned : Pinned := { name := "qxb6612204a", sum := "f13b476398f2e0db6387a7a3b5d869298801e4d1d91c21b6f2f142bc75d5002b", checked := Try.checked }
namespace Rows
def none {H : Type} : Left H := { results := [], args := [] }

/-- 'zzlaws_internal_keeper_b1.FnShortIsTakenInByIdleNode': WHATEVER THE INPUT: true; the input reads as it did. -/
def fnShortIsTakenInByIdleNodeSpec : ChangeSpec := { name := "fnShortIsTakenInByIdleNode", fn := fun _ => fun
  | [d1, d2, d3, d4, d5, d6, d7] => { results := [.lit (.bool true)], args := [d1, d2, d3, d4, d5, d6, d7] }
  | _ => none }
def fnShortIsTakenInByIdleNodeRow : OpenClaim := { program := "qxb6612204a", sum := "f13b476398f2e0db6387a7a3b5d869298801e4d1d91c21b6f2f142bc75d5002b", func := "example.com/winnowset/winnowset/zzlaws_internal_keeper_b1.FnShortIsTakenInByIdleNode", spec := "fnShortIsTakenInByIdleNode", unfollowed := true, recurses := true, apart := false }
def FnShortIsTakenInByIdleNodeSaid : Prop := fnShortIsTakenInByIdleNodeRow.holds Try.pinned (OpenSpec.ofChange fnShortIsTakenInByIdleNodeSpec)

/-- ITS FALSE NEIGHBOUR: 'it returns false'. Refute it at one input. -/
def fnShortIsTakenInByIdleNodeWrong : ChangeSpec := { name := "fnShortIsTakenInByIdleNode", fn := fun _ => fun
  | [d1, d2, d3, d4, d5, d6, d7] => { results := [.lit (.bool false)], args := [d1, d2, d3, d4, d5, d6, d7] }
  | _ => none }
def FnShortIsTakenInByIdleNodeWrongFalsely : Prop := fnShortIsTakenInByIdleNodeRow.holds Try.pinned (OpenSpec.ofChange fnShortIsTakenInByIdleNodeWrong)

/-- 'zzlaws_internal_keeper_b1.FnHoldsTombstoneRefusesSet': WHATEVER THE INPUT: true; the input reads as it did. -/
def fnHoldsTombstoneRefusesSetSpec : ChangeSpec := { name := "fnHoldsTombstoneRefusesSet", fn := fun _ => fun
  | [d1, d2, d3, d4, d5, d6, d7, d8, d9, d10] => { results := [.lit (.bool true)], args := [d1, d2, d3, d4, d5, d6, d7, d8, d9, d10] }
  | _ => none }
def fnHoldsTombstoneRefusesSetRow : OpenClaim := { program := "qxb6612204a", sum := "f13b476398f2e0db6387a7a3b5d869298801e4d1d91c21b6f2f142bc75d5002b", func := "example.com/winnowset/winnowset/zzlaws_internal_keeper_b1.FnHoldsTombstoneRefusesSet", spec := "fnHoldsTombstoneRefusesSet", unfollowed := true, recurses := true, apart := false }
def FnHoldsTombstoneRefusesSetSaid : Prop := fnHoldsTombstoneRefusesSetRow.holds Try.pinned (OpenSpec.ofChange fnHoldsTombstoneRefusesSetSpec)

/-- ITS FALSE NEIGHBOUR: 'it returns false'. Refute it at one input. -/
def fnHoldsTombstoneRefusesSetWrong : ChangeSpec := { name := "fnHoldsTombstoneRefusesSet", fn := fun _ => fun
  | [d1, d2, d3, d4, d5, d6, d7, d8, d9, d10] => { results := [.lit (.bool false)], args := [d1, d2, d3, d4, d5, d6, d7, d8, d9, d10] }
  | _ => none }
def FnHoldsTombstoneRefusesSetWrongFalsely : Prop := fnHoldsTombstoneRefusesSetRow.holds Try.pinned (OpenSpec.ofChange fnHoldsTombstoneRefusesSetWrong)

/-- 'zzlaws_internal_keeper_b1.FnHoldsTombstoneAfterSetMeetsTombstone': WHATEVER THE INPUT: true; the input reads as it did. -/
def fnHoldsTombstoneAfterSetMeetsTombstoneSpec : ChangeSpec := { name := "fnHoldsTombstoneAfterSetMeetsTombstone", fn := fun _ => fun
  | [d1, d2, d3, d4, d5, d6, d7, d8] => { results := [.lit (.bool true)], args := [d1, d2, d3, d4, d5, d6, d7, d8] }
  | _ => none }
def fnHoldsTombstoneAfterSetMeetsTombstoneRow : OpenClaim := { program := "qxb6612204a", sum := "f13b476398f2e0db6387a7a3b5d869298801e4d1d91c21b6f2f142bc75d5002b", func := "example.com/winnowset/winnowset/zzlaws_internal_keeper_b1.FnHoldsTombstoneAfterSetMeetsTombstone", spec := "fnHoldsTombstoneAfterSetMeetsTombstone", unfollowed := true, recurses := true, apart := false }
def FnHoldsTombstoneAfterSetMeetsTombstoneSaid : Prop := fnHoldsTombstoneAfterSetMeetsTombstoneRow.holds Try.pinned (OpenSpec.ofChange fnHoldsTombstoneAfterSetMeetsTombstoneSpec)

/-- ITS FALSE NEIGHBOUR: 'it returns false'. Refute it at one input. -/
def fnHoldsTombstoneAfterSetMeetsTombstoneWrong : ChangeSpec := { name := "fnHoldsTombstoneAfterSetMeetsTombstone", fn := fun _ => fun
  | [d1, d2, d3, d4, d5, d6, d7, d8] => { results := [.lit (.bool false)], args := [d1, d2, d3, d4, d5, d6, d7, d8] }
  | _ => none }
def FnHoldsTombstoneAfterSetMeetsTombstoneWrongFalsely : Prop := fnHoldsTombstoneAfterSetMeetsTombstoneRow.holds Try.pinned (OpenSpec.ofChange fnHoldsTombstoneAfterSetMeetsTombstoneWrong)

/-- 'zzlaws_internal_keeper_b1.FnRecordLiveAcrossReceiveSet': WHATEVER THE INPUT: true; the input reads as it did. -/
def fnRecordLiveAcrossReceiveSetSpec : ChangeSpec := { name := "fnRecordLiveAcrossReceiveSet", fn := fun _ => fun
  | [d1, d2, d3, d4, d5, d6, d7, d8, d9, d10] => { results := [.lit (.bool true)], args := [d1, d2, d3, d4, d5, d6, d7, d8, d9, d10] }
  | _ => none }
def fnRecordLiveAcrossReceiveSetRow : OpenClaim := { program := "qxb6612204a", sum := "f13b476398f2e0db6387a7a3b5d869298801e4d1d91c21b6f2f142bc75d5002b", func := "example.com/winnowset/winnowset/zzlaws_internal_keeper_b1.FnRecordLiveAcrossReceiveSet", spec := "fnRecordLiveAcrossReceiveSet", unfollowed := true, recurses := true, apart := false }
def FnRecordLiveAcrossReceiveSetSaid : Prop := fnRecordLiveAcrossReceiveSetRow.holds Try.pinned (OpenSpec.ofChange fnRecordLiveAcrossReceiveSetSpec)

/-- ITS FALSE NEIGHBOUR: 'it returns false'. Refute it at one input. -/
def fnRecordLiveAcrossReceiveSetWrong : ChangeSpec := { name := "fnRecordLiveAcrossReceiveSet", fn := fun _ => fun
  | [d1, d2, d3, d4, d5, d6, d7, d8, d9, d10] => { results := [.lit (.bool false)], args := [d1, d2, d3, d4, d5, d6, d7, d8, d9, d10] }
  | _ => none }
def FnRecordLiveAcrossReceiveSetWrongFalsely : Prop := fnRecordLiveAcrossReceiveSetRow.holds Try.pinned (OpenSpec.ofChange fnRecordLiveAcrossReceiveSetWrong)

/-- 'zzlaws_internal_keeper_b1.FnRecordOrderFreeTwoSets': WHATEVER THE INPUT: true; the input reads as it did. -/
def fnRecordOrderFreeTwoSetsSpec : ChangeSpec := { name := "fnRecordOrderFreeTwoSets", fn := fun _ => fun
  | [d1, d2, d3, d4] => { results := [.lit (.bool true)], args := [d1, d2, d3, d4] }
  | _ => none }
def fnRecordOrderFreeTwoSetsRow : OpenClaim := { program := "qxb6612204a", sum := "f13b476398f2e0db6387a7a3b5d869298801e4d1d91c21b6f2f142bc75d5002b", func := "example.com/winnowset/winnowset/zzlaws_internal_keeper_b1.FnRecordOrderFreeTwoSets", spec := "fnRecordOrderFreeTwoSets", unfollowed := true, recurses := true, apart := false }
def FnRecordOrderFreeTwoSetsSaid : Prop := fnRecordOrderFreeTwoSetsRow.holds Try.pinned (OpenSpec.ofChange fnRecordOrderFreeTwoSetsSpec)

/-- ITS FALSE NEIGHBOUR: 'it returns false'. Refute it at one input. -/
def fnRecordOrderFreeTwoSetsWrong : ChangeSpec := { name := "fnRecordOrderFreeTwoSets", fn := fun _ => fun
  | [d1, d2, d3, d4] => { results := [.lit (.bool false)], args := [d1, d2, d3, d4] }
  | _ => none }
def FnRecordOrderFreeTwoSetsWrongFalsely : Prop := fnRecordOrderFreeTwoSetsRow.holds Try.pinned (OpenSpec.ofChange fnRecordOrderFreeTwoSetsWrong)

end Rows
end Go.Proofs.Qxb6612204a
