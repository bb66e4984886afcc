/-
  No cell of these rows narrows 'for every input' (looked for: loops, veiled, ifaces, maps, wideKeys, modest, calm, conditions, laid).
  DERIVED. THE GIVEN ROWS OF THIS SEAT. 5 by the template 'for every input the law returns true; each argument reads behind the call as it read before'; 0 by the template 'total and deterministic' (their statements: Qxb6618715aTotals.lean).
  GIVEN WITH THE SEED: the statements are not yours to turn. If you find one false, say at which input.
  Laid BY PROGRAM, IN A SANDBOX (cutbox-rows.mjs): the forced cells as the released guide's own fill.sh prints them over the translation e147505eb6b7e347… (all of the seat's roots in one cut). By AI agents, Wed Nov 11 2026. No macro, syntax, notation, axiom, sorry.
-/
import Derived.Test.Qxb6618715aChecked
import GoSem.Claim
import GoSem.ClaimJoined
import GoSem.ClaimMapViews
import Derived.JoinedTies
import Derived.KernelRfl
namespace Go.Proofs.Qxb6618715a
/- THE CELL 'sum', in the pinned program and in every row, IS THE sha256 OF THE DUMP (.gsa) THAT Qxb6618715aProg.lean LOADS. Nothing in Lean hashes anything: it is a label: what it is worth is what the hold of that sum in a sandbox is worth. -/
noncomputable def Try.pinned : Pinned := { name := "qxb6618715a", sum := "e147505eb6b7e3474dce587924dd14b11ffb9000f03c2a0cc5af65f4b5b6769f", checked := Try.checked }
namespace Rows
def none {H : Type} : Left H := { results := [], args := [] }

/-- 'zzlaws_internal_replica_b1.FnSameAppendIsSymmetricAndReflexive': WHATEVER THE INPUT: true; the input reads as it did. -/
def fnSameAppendIsSymmetricAndReflexiveSpec : ChangeSpec := { name := "fnSameAppendIsSymmetricAndReflexive", fn := fun _ => fun
  | [d1, d2, d3, d4, d5, d6, d7, d8, d9] => { results := [.lit (.bool true)], args := [d1, d2, d3, d4, d5, d6, d7, d8, d9] }
  | _ => none }
def fnSameAppendIsSymmetricAndReflexiveRow : OpenClaim := { program := "qxb6618715a", sum := "e147505eb6b7e3474dce587924dd14b11ffb9000f03c2a0cc5af65f4b5b6769f", func := "example.com/precedent/precedent/zzlaws_internal_replica_b1.FnSameAppendIsSymmetricAndReflexive", spec := "fnSameAppendIsSymmetricAndReflexive", plainKeys := false, apart := false }
def FnSameAppendIsSymmetricAndReflexiveSaid : Prop := fnSameAppendIsSymmetricAndReflexiveRow.holds Try.pinned (OpenSpec.ofChange fnSameAppendIsSymmetricAndReflexiveSpec)

/-- ITS FALSE NEIGHBOUR: 'it returns false'. Refute it at one input. -/
def fnSameAppendIsSymmetricAndReflexiveWrong : ChangeSpec := { name := "fnSameAppendIsSymmetricAndReflexive", fn := fun _ => fun
  | [d1, d2, d3, d4, d5, d6, d7, d8, d9] => { results := [.lit (.bool false)], args := [d1, d2, d3, d4, d5, d6, d7, d8, d9] }
  | _ => none }
def FnSameAppendIsSymmetricAndReflexiveWrongFalsely : Prop := fnSameAppendIsSymmetricAndReflexiveRow.holds Try.pinned (OpenSpec.ofChange fnSameAppendIsSymmetricAndReflexiveWrong)

/-- 'zzlaws_internal_replica_b1.FnSameAppendRefusesEveryChangeOfOnePart': WHATEVER THE INPUT: true; the input reads as it did. -/
def fnSameAppendRefusesEveryChangeOfOnePartSpec : ChangeSpec := { name := "fnSameAppendRefusesEveryChangeOfOnePart", fn := fun _ => fun
  | [d1, d2, d3, d4, d5, d6, d7, d8] => { results := [.lit (.bool true)], args := [d1, d2, d3, d4, d5, d6, d7, d8] }
  | _ => none }
def fnSameAppendRefusesEveryChangeOfOnePartRow : OpenClaim := { program := "qxb6618715a", sum := "e147505eb6b7e3474dce587924dd14b11ffb9000f03c2a0cc5af65f4b5b6769f", func := "example.com/precedent/precedent/zzlaws_internal_replica_b1.FnSameAppendRefusesEveryChangeOfOnePart", spec := "fnSameAppendRefusesEveryChangeOfOnePart", plainKeys := false, apart := false }
def FnSameAppendRefusesEveryChangeOfOnePartSaid : Prop := fnSameAppendRefusesEveryChangeOfOnePartRow.holds Try.pinned (OpenSpec.ofChange fnSameAppendRefusesEveryChangeOfOnePartSpec)

/-- ITS FALSE NEIGHBOUR: 'it returns false'. Refute it at one input. -/
def fnSameAppendRefusesEveryChangeOfOnePartWrong : ChangeSpec := { name := "fnSameAppendRefusesEveryChangeOfOnePart", fn := fun _ => fun
  | [d1, d2, d3, d4, d5, d6, d7, d8] => { results := [.lit (.bool false)], args := [d1, d2, d3, d4, d5, d6, d7, d8] }
  | _ => none }
def FnSameAppendRefusesEveryChangeOfOnePartWrongFalsely : Prop := fnSameAppendRefusesEveryChangeOfOnePartRow.holds Try.pinned (OpenSpec.ofChange fnSameAppendRefusesEveryChangeOfOnePartWrong)

/-- 'zzlaws_internal_replica_b1.FnWaitsLockedIsOrOverAnyCutAndOneNamingJoinSuffices': WHATEVER THE INPUT: true; the input reads as it did. -/
def fnWaitsLockedIsOrOverAnyCutAndOneNamingJoinSufficesSpec : ChangeSpec := { name := "fnWaitsLockedIsOrOverAnyCutAndOneNamingJoinSuffices", fn := fun _ => fun
  | [d1, d2, d3, d4, d5] => { results := [.lit (.bool true)], args := [d1, d2, d3, d4, d5] }
  | _ => none }
def fnWaitsLockedIsOrOverAnyCutAndOneNamingJoinSufficesRow : OpenClaim := { program := "qxb6618715a", sum := "e147505eb6b7e3474dce587924dd14b11ffb9000f03c2a0cc5af65f4b5b6769f", func := "example.com/precedent/precedent/zzlaws_internal_replica_b1.FnWaitsLockedIsOrOverAnyCutAndOneNamingJoinSuffices", spec := "fnWaitsLockedIsOrOverAnyCutAndOneNamingJoinSuffices", unfollowed := true, recurses := true, plainKeys := false, apart := false }
def FnWaitsLockedIsOrOverAnyCutAndOneNamingJoinSufficesSaid : Prop := fnWaitsLockedIsOrOverAnyCutAndOneNamingJoinSufficesRow.holds Try.pinned (OpenSpec.ofChange fnWaitsLockedIsOrOverAnyCutAndOneNamingJoinSufficesSpec)

/-- ITS FALSE NEIGHBOUR: 'it returns false'. Refute it at one input. -/
def fnWaitsLockedIsOrOverAnyCutAndOneNamingJoinSufficesWrong : ChangeSpec := { name := "fnWaitsLockedIsOrOverAnyCutAndOneNamingJoinSuffices", fn := fun _ => fun
  | [d1, d2, d3, d4, d5] => { results := [.lit (.bool false)], args := [d1, d2, d3, d4, d5] }
  | _ => none }
def FnWaitsLockedIsOrOverAnyCutAndOneNamingJoinSufficesWrongFalsely : Prop := fnWaitsLockedIsOrOverAnyCutAndOneNamingJoinSufficesRow.holds Try.pinned (OpenSpec.ofChange fnWaitsLockedIsOrOverAnyCutAndOneNamingJoinSufficesWrong)

/-- 'zzlaws_internal_replica_b1.FnWaitsLockedStrippedOfANameWaitsOnlyThroughAll': WHATEVER THE INPUT: true; the input reads as it did. -/
def fnWaitsLockedStrippedOfANameWaitsOnlyThroughAllSpec : ChangeSpec := { name := "fnWaitsLockedStrippedOfANameWaitsOnlyThroughAll", fn := fun _ => fun
  | [d1, d2, d3] => { results := [.lit (.bool true)], args := [d1, d2, d3] }
  | _ => none }
def fnWaitsLockedStrippedOfANameWaitsOnlyThroughAllRow : OpenClaim := { program := "qxb6618715a", sum := "e147505eb6b7e3474dce587924dd14b11ffb9000f03c2a0cc5af65f4b5b6769f", func := "example.com/precedent/precedent/zzlaws_internal_replica_b1.FnWaitsLockedStrippedOfANameWaitsOnlyThroughAll", spec := "fnWaitsLockedStrippedOfANameWaitsOnlyThroughAll", unfollowed := true, recurses := true, plainKeys := false, apart := false }
def FnWaitsLockedStrippedOfANameWaitsOnlyThroughAllSaid : Prop := fnWaitsLockedStrippedOfANameWaitsOnlyThroughAllRow.holds Try.pinned (OpenSpec.ofChange fnWaitsLockedStrippedOfANameWaitsOnlyThroughAllSpec)

/-- ITS FALSE NEIGHBOUR: 'it returns false'. Refute it at one input. -/
def fnWaitsLockedStrippedOfANameWaitsOnlyThroughAllWrong : ChangeSpec := { name := "fnWaitsLockedStrippedOfANameWaitsOnlyThroughAll", fn := fun _ => fun
  | [d1, d2, d3] => { results := [.lit (.bool false)], args := [d1, d2, d3] }
  | _ => none }
def FnWaitsLockedStrippedOfANameWaitsOnlyThroughAllWrongFalsely : Prop := fnWaitsLockedStrippedOfANameWaitsOnlyThroughAllRow.holds Try.pinned (OpenSpec.ofChange fnWaitsLockedStrippedOfANameWaitsOnlyThroughAllWrong)

/-- 'zzlaws_internal_replica_b1.FnSentAtTwoLimitsIsSentAtTheGreaterAndNilSettlesNothing': WHATEVER THE INPUT: true; the input reads as it did. -/
def fnSentAtTwoLimitsIsSentAtTheGreaterAndNilSettlesNothingSpec : ChangeSpec := { name := "fnSentAtTwoLimitsIsSentAtTheGreaterAndNilSettlesNothing", fn := fun _ => fun
  | [d1, d2, d3, d4, d5, d6, d7] => { results := [.lit (.bool true)], args := [d1, d2, d3, d4, d5, d6, d7] }
  | _ => none }
def fnSentAtTwoLimitsIsSentAtTheGreaterAndNilSettlesNothingRow : OpenClaim := { program := "qxb6618715a", sum := "e147505eb6b7e3474dce587924dd14b11ffb9000f03c2a0cc5af65f4b5b6769f", func := "example.com/precedent/precedent/zzlaws_internal_replica_b1.FnSentAtTwoLimitsIsSentAtTheGreaterAndNilSettlesNothing", spec := "fnSentAtTwoLimitsIsSentAtTheGreaterAndNilSettlesNothing", unfollowed := true, recurses := true, plainKeys := false, apart := false }
def FnSentAtTwoLimitsIsSentAtTheGreaterAndNilSettlesNothingSaid : Prop := fnSentAtTwoLimitsIsSentAtTheGreaterAndNilSettlesNothingRow.holds Try.pinned (OpenSpec.ofChange fnSentAtTwoLimitsIsSentAtTheGreaterAndNilSettlesNothingSpec)

/-- ITS FALSE NEIGHBOUR: 'it returns false'. Refute it at one input. -/
def fnSentAtTwoLimitsIsSentAtTheGreaterAndNilSettlesNothingWrong : ChangeSpec := { name := "fnSentAtTwoLimitsIsSentAtTheGreaterAndNilSettlesNothing", fn := fun _ => fun
  | [d1, d2, d3, d4, d5, d6, d7] => { results := [.lit (.bool false)], args := [d1, d2, d3, d4, d5, d6, d7] }
  | _ => none }
def FnSentAtTwoLimitsIsSentAtTheGreaterAndNilSettlesNothingWrongFalsely : Prop := fnSentAtTwoLimitsIsSentAtTheGreaterAndNilSettlesNothingRow.holds Try.pinned (OpenSpec.ofChange fnSentAtTwoLimitsIsSentAtTheGreaterAndNilSettlesNothingWrong)

end Rows
end Go.Proofs.Qxb6618715a
