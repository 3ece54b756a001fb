/-
  DERIVED. GIVEN WITH THE SEED: THE CARDS: each row of YbulkduloDoorRows.lean that lists a variable, with what it lists TIED to the program's text (the seventh form; the later family's looks); each row that meets fmt, with fmt's text TOLD by the authors' own Lean function (tested against real Go, not proved from fmt's source: count such statements apart). THE CARD IS WHAT COUNTS. Prove the row's statement (the work); the ties are given (YbulkduloDoorTie.lean); close each card by the builder's one call (the guide's Derived/Test/ToyasCard.lean, 'card_holds'). Laid BY PROGRAM, IN A SANDBOX (cutbox-door.mjs). By AI agents, Wed Nov 11 2026. No macro, syntax, notation, axiom, sorry.
-/
import Derived.Test.YbulkduloDoorRows
import GoSem.ClaimSeven
namespace Go.Proofs.YbulkduloDoor
namespace Rows

/-- THE TIED CARD OF 'aces.LawS6059AWhole'. -/
def lawS6059AWholeCard : Claim7 := { stood := { row := lawS6059AWholeRow, standIns := [], harness := (true, "619f976ad0e7fe985b0261af73e9dd883fb213638aed2848f67f249c32f49f92"), looks := false }, kinds := [], alts := [], laidByText := true, laidKinds := [.data, .data, .data], laidTests := true, laidLooks := .later }
def LawS6059AWholeCardSaid : Prop := Claim7.holds Ybad.pinned (.plain (OpenSpec.ofChange lawS6059AWholeSpec)) lawS6059AWholeCard
end Rows
end Go.Proofs.YbulkduloDoor
