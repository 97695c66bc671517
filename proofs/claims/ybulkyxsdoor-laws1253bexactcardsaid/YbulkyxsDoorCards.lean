/-
  DERIVED. GIVEN WITH THE SEED: THE CARDS: each row of YbulkyxsDoorRows.lean that lists a variable, with what it lists TIED to the program's text (the seventh form; the later family's looks); each row that meets fmt, with fmt's text TOLD by the authors' own Lean function (tested against real Go, not proved from fmt's source: count such statements apart). THE CARD IS WHAT COUNTS. Prove the row's statement (the work); the ties are given (YbulkyxsDoorTie.lean); close each card by the builder's one call (the guide's Derived/Test/ToyasCard.lean, 'card_holds'). Laid BY PROGRAM, IN A SANDBOX (cutbox-door.mjs). By AI agents, Wed Nov 11 2026. No macro, syntax, notation, axiom, sorry.
-/
import Derived.Test.YbulkyxsDoorRows
import GoSem.ClaimSeven
namespace Go.Proofs.YbulkyxsDoor
namespace Rows

/-- THE TIED CARD OF 'interlace.LawS1253BExact'. -/
def lawS1253BExactCard : Claim7 := { stood := { row := lawS1253BExactRow, standIns := [], harness := (true, "e30b2f67eb80aefa7ce8f02ae7682f7455457d556e53a7090d468ab1471be85e"), looks := true }, kinds := [], alts := [], laidByText := true, laidKinds := [.data], laidTests := true, laidLooks := .later }
def LawS1253BExactCardSaid : Prop := Claim7.holds Ybad.pinned (.plain (OpenSpec.ofChange lawS1253BExactSpec)) lawS1253BExactCard

/-- THE TIED CARD OF 'interlace.LawS1253BNoneHeld'. -/
def lawS1253BNoneHeldCard : Claim7 := { stood := { row := lawS1253BNoneHeldRow, standIns := [], harness := (true, "e30b2f67eb80aefa7ce8f02ae7682f7455457d556e53a7090d468ab1471be85e"), looks := true }, kinds := [], alts := [], laidByText := true, laidKinds := [.data], laidTests := true, laidLooks := .later }
def LawS1253BNoneHeldCardSaid : Prop := Claim7.holds Ybad.pinned (.plain (OpenSpec.ofChange lawS1253BNoneHeldSpec)) lawS1253BNoneHeldCard
end Rows
end Go.Proofs.YbulkyxsDoor
