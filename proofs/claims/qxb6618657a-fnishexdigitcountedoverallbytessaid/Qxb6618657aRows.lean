/-
  No cell of these rows narrows 'for every input' (looked for: loops, veiled, ifaces, maps, wideKeys, modest, calm, conditions, laid).
  DERIVED. THE GIVEN ROWS OF THIS SEAT. 2 by the template 'for every input the law returns true; each argument reads behind the call as it read before'; 0 by the template 'total and deterministic' (their statements: Qxb6618657aTotals.lean).
  GIVEN WITH THE SEED: the statements are not yours to turn. If you find one false, say at which input.
  Laid BY PROGRAM, IN A SANDBOX (cutbox-rows.mjs): the forced cells as the released guide's own fill.sh prints them over the translation f76e4bfbb32c8b78… (all of the seat's roots in one cut). By AI agents, Wed Nov 11 2026. No macro, syntax, notation, axiom, sorry.
-/
import Derived.Test.Qxb6618657aChecked
import GoSem.Claim
import GoSem.ClaimJoined
import GoSem.ClaimMapViews
import Derived.JoinedTies
import Derived.KernelRfl
namespace Go.Proofs.Qxb6618657a
/- THE CELL 'sum', in the pinned program and in every row, IS THE sha256 OF THE DUMP (.gsa) THAT Qxb6618657aProg.lean LOADS. Nothing in Lean hashes anything: it is a label: what it is worth is what the hold of that sum in a sandbox is worth. -/
noncomputable def Try.pinned : Pinned := { name := "qxb6618657a", sum := "f76e4bfbb32c8b78c1a37a3ef8b620da6dc6f715d70a6b85b216caa4f9ac43aa", checked := Try.checked }
namespace Rows
def none {H : Type} : Left H := { results := [], args := [] }

/-- 'zzlaws_pkg_thrift_b1.FnBaseNameDropsDirAndSuffix': WHATEVER THE INPUT: true; the input reads as it did. -/
def fnBaseNameDropsDirAndSuffixSpec : ChangeSpec := { name := "fnBaseNameDropsDirAndSuffix", fn := fun _ => fun
  | [d1, d2] => { results := [.lit (.bool true)], args := [d1, d2] }
  | _ => none }
def fnBaseNameDropsDirAndSuffixRow : OpenClaim := { program := "qxb6618657a", sum := "f76e4bfbb32c8b78c1a37a3ef8b620da6dc6f715d70a6b85b216caa4f9ac43aa", func := "example.com/evolvent/evolvent/zzlaws_pkg_thrift_b1.FnBaseNameDropsDirAndSuffix", spec := "fnBaseNameDropsDirAndSuffix", inPlace := ["internal/bytealg.IndexByteString"], apart := false }
def FnBaseNameDropsDirAndSuffixSaid : Prop := fnBaseNameDropsDirAndSuffixRow.holds Try.pinned (OpenSpec.ofChange fnBaseNameDropsDirAndSuffixSpec)

/-- ITS FALSE NEIGHBOUR: 'it returns false'. Refute it at one input. -/
def fnBaseNameDropsDirAndSuffixWrong : ChangeSpec := { name := "fnBaseNameDropsDirAndSuffix", fn := fun _ => fun
  | [d1, d2] => { results := [.lit (.bool false)], args := [d1, d2] }
  | _ => none }
def FnBaseNameDropsDirAndSuffixWrongFalsely : Prop := fnBaseNameDropsDirAndSuffixRow.holds Try.pinned (OpenSpec.ofChange fnBaseNameDropsDirAndSuffixWrong)

/-- 'zzlaws_pkg_thrift_b1.FnIsHexDigitCountedOverAllBytes': WHATEVER THE INPUT: true; the input reads as it did. -/
def fnIsHexDigitCountedOverAllBytesSpec : ChangeSpec := { name := "fnIsHexDigitCountedOverAllBytes", fn := fun _ => fun
  | [d] => { results := [.lit (.bool true)], args := [d] }
  | _ => none }
def fnIsHexDigitCountedOverAllBytesRow : OpenClaim := { program := "qxb6618657a", sum := "f76e4bfbb32c8b78c1a37a3ef8b620da6dc6f715d70a6b85b216caa4f9ac43aa", func := "example.com/evolvent/evolvent/zzlaws_pkg_thrift_b1.FnIsHexDigitCountedOverAllBytes", spec := "fnIsHexDigitCountedOverAllBytes", apart := false }
def FnIsHexDigitCountedOverAllBytesSaid : Prop := fnIsHexDigitCountedOverAllBytesRow.holds Try.pinned (OpenSpec.ofChange fnIsHexDigitCountedOverAllBytesSpec)

/-- ITS FALSE NEIGHBOUR: 'it returns false'. Refute it at one input. -/
def fnIsHexDigitCountedOverAllBytesWrong : ChangeSpec := { name := "fnIsHexDigitCountedOverAllBytes", fn := fun _ => fun
  | [d] => { results := [.lit (.bool false)], args := [d] }
  | _ => none }
def FnIsHexDigitCountedOverAllBytesWrongFalsely : Prop := fnIsHexDigitCountedOverAllBytesRow.holds Try.pinned (OpenSpec.ofChange fnIsHexDigitCountedOverAllBytesWrong)

end Rows
end Go.Proofs.Qxb6618657a
