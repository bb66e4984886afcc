/-
  No cell of these rows narrows 'for every input' (looked for: loops, veiled, ifaces, maps, wideKeys, modest, calm, conditions, laid).
  DERIVED. THE GIVEN ROWS OF THIS SEAT. 5 by the template 'for every input the law returns true; each argument reads behind the call as it read before'; 0 by the template 'total and deterministic' (their statements: Qxb6618655aTotals.lean).
  GIVEN WITH THE SEED: the statements are not yours to turn. If you find one false, say at which input.
  Laid BY PROGRAM, IN A SANDBOX (cutbox-rows.mjs): the forced cells as the released guide's own fill.sh prints them over the translation 597510a3e7a65ba4… (all of the seat's roots in one cut). By AI agents, Wed Nov 11 2026. No macro, syntax, notation, axiom, sorry.
-/
import Derived.Test.Qxb6618655aChecked
import GoSem.Claim
import GoSem.ClaimJoined
import GoSem.ClaimMapViews
import Derived.JoinedTies
import Derived.KernelRfl
namespace Go.Proofs.Qxb6618655a
/- THE CELL 'sum', in the pinned program and in every row, IS THE sha256 OF THE DUMP (.gsa) THAT Qxb6618655aProg.lean LOADS. Nothing in Lean hashes anything: it is a label: what it is worth is what the hold of that sum in a sandbox is worth. -/
noncomputable def Try.pinned : Pinned := { name := "qxb6618655a", sum := "597510a3e7a65ba4141bfde51f302dcf483e0cb946a903ceceeb3dec35e027a0", checked := Try.checked }
namespace Rows
def none {H : Type} : Left H := { results := [], args := [] }

/-- 'zzlaws_internal_replica_b1.FnWeighAddsAlongOneSign': WHATEVER THE INPUT: true; the input reads as it did. -/
def fnWeighAddsAlongOneSignSpec : ChangeSpec := { name := "fnWeighAddsAlongOneSign", fn := fun _ => fun
  | [d1, d2] => { results := [.lit (.bool true)], args := [d1, d2] }
  | _ => none }
def fnWeighAddsAlongOneSignRow : OpenClaim := { program := "qxb6618655a", sum := "597510a3e7a65ba4141bfde51f302dcf483e0cb946a903ceceeb3dec35e027a0", func := "example.com/leeway/leeway/zzlaws_internal_replica_b1.FnWeighAddsAlongOneSign", spec := "fnWeighAddsAlongOneSign", apart := false }
def FnWeighAddsAlongOneSignSaid : Prop := fnWeighAddsAlongOneSignRow.holds Try.pinned (OpenSpec.ofChange fnWeighAddsAlongOneSignSpec)

/-- ITS FALSE NEIGHBOUR: 'it returns false'. Refute it at one input. -/
def fnWeighAddsAlongOneSignWrong : ChangeSpec := { name := "fnWeighAddsAlongOneSign", fn := fun _ => fun
  | [d1, d2] => { results := [.lit (.bool false)], args := [d1, d2] }
  | _ => none }
def FnWeighAddsAlongOneSignWrongFalsely : Prop := fnWeighAddsAlongOneSignRow.holds Try.pinned (OpenSpec.ofChange fnWeighAddsAlongOneSignWrong)

/-- 'zzlaws_internal_replica_b1.FnWeighStepsByOneAndMirrors': WHATEVER THE INPUT: true; the input reads as it did. -/
def fnWeighStepsByOneAndMirrorsSpec : ChangeSpec := { name := "fnWeighStepsByOneAndMirrors", fn := fun _ => fun
  | [d] => { results := [.lit (.bool true)], args := [d] }
  | _ => none }
def fnWeighStepsByOneAndMirrorsRow : OpenClaim := { program := "qxb6618655a", sum := "597510a3e7a65ba4141bfde51f302dcf483e0cb946a903ceceeb3dec35e027a0", func := "example.com/leeway/leeway/zzlaws_internal_replica_b1.FnWeighStepsByOneAndMirrors", spec := "fnWeighStepsByOneAndMirrors", apart := false }
def FnWeighStepsByOneAndMirrorsSaid : Prop := fnWeighStepsByOneAndMirrorsRow.holds Try.pinned (OpenSpec.ofChange fnWeighStepsByOneAndMirrorsSpec)

/-- ITS FALSE NEIGHBOUR: 'it returns false'. Refute it at one input. -/
def fnWeighStepsByOneAndMirrorsWrong : ChangeSpec := { name := "fnWeighStepsByOneAndMirrors", fn := fun _ => fun
  | [d] => { results := [.lit (.bool false)], args := [d] }
  | _ => none }
def FnWeighStepsByOneAndMirrorsWrongFalsely : Prop := fnWeighStepsByOneAndMirrorsRow.holds Try.pinned (OpenSpec.ofChange fnWeighStepsByOneAndMirrorsWrong)

/-- 'zzlaws_internal_replica_b1.FnLackOwnTwiceIsOnceAtTheLesser': WHATEVER THE INPUT: true; the input reads as it did. -/
def fnLackOwnTwiceIsOnceAtTheLesserSpec : ChangeSpec := { name := "fnLackOwnTwiceIsOnceAtTheLesser", fn := fun _ => fun
  | [d1, d2, d3, d4, d5, d6] => { results := [.lit (.bool true)], args := [d1, d2, d3, d4, d5, d6] }
  | _ => none }
def fnLackOwnTwiceIsOnceAtTheLesserRow : OpenClaim := { program := "qxb6618655a", sum := "597510a3e7a65ba4141bfde51f302dcf483e0cb946a903ceceeb3dec35e027a0", func := "example.com/leeway/leeway/zzlaws_internal_replica_b1.FnLackOwnTwiceIsOnceAtTheLesser", spec := "fnLackOwnTwiceIsOnceAtTheLesser", apart := false }
def FnLackOwnTwiceIsOnceAtTheLesserSaid : Prop := fnLackOwnTwiceIsOnceAtTheLesserRow.holds Try.pinned (OpenSpec.ofChange fnLackOwnTwiceIsOnceAtTheLesserSpec)

/-- ITS FALSE NEIGHBOUR: 'it returns false'. Refute it at one input. -/
def fnLackOwnTwiceIsOnceAtTheLesserWrong : ChangeSpec := { name := "fnLackOwnTwiceIsOnceAtTheLesser", fn := fun _ => fun
  | [d1, d2, d3, d4, d5, d6] => { results := [.lit (.bool false)], args := [d1, d2, d3, d4, d5, d6] }
  | _ => none }
def FnLackOwnTwiceIsOnceAtTheLesserWrongFalsely : Prop := fnLackOwnTwiceIsOnceAtTheLesserRow.holds Try.pinned (OpenSpec.ofChange fnLackOwnTwiceIsOnceAtTheLesserWrong)

/-- 'zzlaws_internal_replica_b1.FnLackOwnOrderFree': WHATEVER THE INPUT: true; the input reads as it did. -/
def fnLackOwnOrderFreeSpec : ChangeSpec := { name := "fnLackOwnOrderFree", fn := fun _ => fun
  | [d1, d2, d3, d4, d5, d6, d7] => { results := [.lit (.bool true)], args := [d1, d2, d3, d4, d5, d6, d7] }
  | _ => none }
def fnLackOwnOrderFreeRow : OpenClaim := { program := "qxb6618655a", sum := "597510a3e7a65ba4141bfde51f302dcf483e0cb946a903ceceeb3dec35e027a0", func := "example.com/leeway/leeway/zzlaws_internal_replica_b1.FnLackOwnOrderFree", spec := "fnLackOwnOrderFree", apart := false }
def FnLackOwnOrderFreeSaid : Prop := fnLackOwnOrderFreeRow.holds Try.pinned (OpenSpec.ofChange fnLackOwnOrderFreeSpec)

/-- ITS FALSE NEIGHBOUR: 'it returns false'. Refute it at one input. -/
def fnLackOwnOrderFreeWrong : ChangeSpec := { name := "fnLackOwnOrderFree", fn := fun _ => fun
  | [d1, d2, d3, d4, d5, d6, d7] => { results := [.lit (.bool false)], args := [d1, d2, d3, d4, d5, d6, d7] }
  | _ => none }
def FnLackOwnOrderFreeWrongFalsely : Prop := fnLackOwnOrderFreeRow.holds Try.pinned (OpenSpec.ofChange fnLackOwnOrderFreeWrong)

/-- 'zzlaws_internal_replica_b1.FnTxnToWireCutsAnywhere': WHATEVER THE INPUT: true; the input reads as it did. -/
def fnTxnToWireCutsAnywhereSpec : ChangeSpec := { name := "fnTxnToWireCutsAnywhere", fn := fun _ => fun
  | [d1, d2, d3, d4] => { results := [.lit (.bool true)], args := [d1, d2, d3, d4] }
  | _ => none }
def fnTxnToWireCutsAnywhereRow : OpenClaim := { program := "qxb6618655a", sum := "597510a3e7a65ba4141bfde51f302dcf483e0cb946a903ceceeb3dec35e027a0", func := "example.com/leeway/leeway/zzlaws_internal_replica_b1.FnTxnToWireCutsAnywhere", spec := "fnTxnToWireCutsAnywhere", recurses := true, apart := false }
def FnTxnToWireCutsAnywhereSaid : Prop := fnTxnToWireCutsAnywhereRow.holds Try.pinned (OpenSpec.ofChange fnTxnToWireCutsAnywhereSpec)

/-- ITS FALSE NEIGHBOUR: 'it returns false'. Refute it at one input. -/
def fnTxnToWireCutsAnywhereWrong : ChangeSpec := { name := "fnTxnToWireCutsAnywhere", fn := fun _ => fun
  | [d1, d2, d3, d4] => { results := [.lit (.bool false)], args := [d1, d2, d3, d4] }
  | _ => none }
def FnTxnToWireCutsAnywhereWrongFalsely : Prop := fnTxnToWireCutsAnywhereRow.holds Try.pinned (OpenSpec.ofChange fnTxnToWireCutsAnywhereWrong)

end Rows
end Go.Proofs.Qxb6618655a
