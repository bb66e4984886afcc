/-
  No cell of these rows narrows 'for every input' (looked for: loops, veiled, ifaces, maps, wideKeys, modest, calm, conditions, laid).
  DERIVED. THE GIVEN ROWS OF THIS SEAT. 2 by the template 'for every input the law returns true; each argument reads behind the call as it read before'; 0 by the template 'total and deterministic' (their statements: Qxb6618627aTotals.lean).
  GIVEN WITH THE SEED: the statements are not yours to turn. If you find one false, say at which input.
  Laid BY PROGRAM, IN A SANDBOX (cutbox-rows.mjs): the forced cells as the released guide's own fill.sh prints them over the translation c9e73b3f7e615552… (all of the seat's roots in one cut). By AI agents, Wed Nov 11 2026. No macro, syntax, notation, axiom, sorry.
-/
import Derived.Test.Qxb6618627aChecked
import GoSem.Claim
import GoSem.ClaimJoined
import GoSem.ClaimMapViews
import Derived.JoinedTies
import Derived.KernelRfl
namespace Go.Proofs.Qxb6618627a
/- THE CELL 'sum', in the pinned program and in every row, IS THE sha256 OF THE DUMP (.gsa) THAT Qxb6618627aProg.lean LOADS. Nothing in Lean hashes anything: it is a label: what it is worth is what the hold of that sum in a sandbox is worth. -/
noncomputable def Try.pinned : Pinned := { name := "qxb6618627a", sum := "c9e73b3f7e615552177ac663a6b41552c8575bd231ec9a5721787f0b7797f0f1", checked := Try.checked }
namespace Rows
def none {H : Type} : Left H := { results := [], args := [] }

/-- 'zzlaws_flow_b1.FnCopyObjectOfNumbersIsEqualAndApart': WHATEVER THE INPUT: true; the input reads as it did. -/
def fnCopyObjectOfNumbersIsEqualAndApartSpec : ChangeSpec := { name := "fnCopyObjectOfNumbersIsEqualAndApart", fn := fun _ => fun
  | [d] => { results := [.lit (.bool true)], args := [d] }
  | _ => none }
def fnCopyObjectOfNumbersIsEqualAndApartRow : OpenClaim := { program := "qxb6618627a", sum := "c9e73b3f7e615552177ac663a6b41552c8575bd231ec9a5721787f0b7797f0f1", func := "example.com/plait/plait/zzlaws_flow_b1.FnCopyObjectOfNumbersIsEqualAndApart", spec := "fnCopyObjectOfNumbersIsEqualAndApart", recurses := true, apart := false }
def FnCopyObjectOfNumbersIsEqualAndApartSaid : Prop := fnCopyObjectOfNumbersIsEqualAndApartRow.holds Try.pinned (OpenSpec.ofChange fnCopyObjectOfNumbersIsEqualAndApartSpec)

/-- ITS FALSE NEIGHBOUR: 'it returns false'. Refute it at one input. -/
def fnCopyObjectOfNumbersIsEqualAndApartWrong : ChangeSpec := { name := "fnCopyObjectOfNumbersIsEqualAndApart", fn := fun _ => fun
  | [d] => { results := [.lit (.bool false)], args := [d] }
  | _ => none }
def FnCopyObjectOfNumbersIsEqualAndApartWrongFalsely : Prop := fnCopyObjectOfNumbersIsEqualAndApartRow.holds Try.pinned (OpenSpec.ofChange fnCopyObjectOfNumbersIsEqualAndApartWrong)

/-- 'zzlaws_flow_b1.FnCopyOfCopyOfArraysIsEqualAndApart': WHATEVER THE INPUT: true; the input reads as it did. -/
def fnCopyOfCopyOfArraysIsEqualAndApartSpec : ChangeSpec := { name := "fnCopyOfCopyOfArraysIsEqualAndApart", fn := fun _ => fun
  | [d] => { results := [.lit (.bool true)], args := [d] }
  | _ => none }
def fnCopyOfCopyOfArraysIsEqualAndApartRow : OpenClaim := { program := "qxb6618627a", sum := "c9e73b3f7e615552177ac663a6b41552c8575bd231ec9a5721787f0b7797f0f1", func := "example.com/plait/plait/zzlaws_flow_b1.FnCopyOfCopyOfArraysIsEqualAndApart", spec := "fnCopyOfCopyOfArraysIsEqualAndApart", recurses := true, apart := false }
def FnCopyOfCopyOfArraysIsEqualAndApartSaid : Prop := fnCopyOfCopyOfArraysIsEqualAndApartRow.holds Try.pinned (OpenSpec.ofChange fnCopyOfCopyOfArraysIsEqualAndApartSpec)

/-- ITS FALSE NEIGHBOUR: 'it returns false'. Refute it at one input. -/
def fnCopyOfCopyOfArraysIsEqualAndApartWrong : ChangeSpec := { name := "fnCopyOfCopyOfArraysIsEqualAndApart", fn := fun _ => fun
  | [d] => { results := [.lit (.bool false)], args := [d] }
  | _ => none }
def FnCopyOfCopyOfArraysIsEqualAndApartWrongFalsely : Prop := fnCopyOfCopyOfArraysIsEqualAndApartRow.holds Try.pinned (OpenSpec.ofChange fnCopyOfCopyOfArraysIsEqualAndApartWrong)

end Rows
end Go.Proofs.Qxb6618627a
