/-
  DERIVED. GIVEN WITH THE SEED: THE CARDS: each row of Qxb6618657aDoorRows.lean that lists a variable, with what it lists TIED to the program's text (the seventh form; the later family's looks); each row that meets fmt, with fmt's text TOLD by the authors' own Lean function (tested against real Go, not proved from fmt's source: count such statements apart). THE CARD IS WHAT COUNTS. Prove the row's statement (the work); the ties are given (Qxb6618657aDoorTie.lean); close each card by the builder's one call (the guide's Derived/Test/ToyasCard.lean, 'card_holds'). Laid BY PROGRAM, IN A SANDBOX (cutbox-door.mjs). By AI agents, Wed Nov 11 2026. No macro, syntax, notation, axiom, sorry.
-/
import Derived.Test.Qxb6618657aDoorRows
import GoSem.ClaimSeven
namespace Go.Proofs.Qxb6618657aDoor
namespace Rows

/-- THE TIED CARD OF 'zzlaws_pkg_thrift_b1.FnIsHexDigitAgreesWithHexLiteral'. -/
def fnIsHexDigitAgreesWithHexLiteralCard : Claim7 := { stood := { row := fnIsHexDigitAgreesWithHexLiteralRow, standIns := [], harness := (true, "b5f856d4ac75457c1689b7e7e14fc180bc4612af4fa9214ee00aa34a0eeb8754"), looks := true }, kinds := [], alts := [], laidByText := true, laidKinds := [.data, .data, .data, .sentinel, .sentinel], laidTests := true, laidLooks := .later }
def FnIsHexDigitAgreesWithHexLiteralCardSaid : Prop := Claim7.holds Tryd.pinned (.plain (OpenSpec.ofChange fnIsHexDigitAgreesWithHexLiteralSpec)) fnIsHexDigitAgreesWithHexLiteralCard
end Rows
end Go.Proofs.Qxb6618657aDoor
