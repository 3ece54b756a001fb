/-
  DERIVED. GIVEN WITH THE SEED: THE CARDS: each row of YbulkdugeFmtRows.lean that lists a variable, with what it lists TIED to the program's text (the seventh form; the later family's looks); each row that meets fmt, with fmt's text TOLD by the authors' own Lean function (tested against real Go, not proved from fmt's source: count such statements apart). THE CARD IS WHAT COUNTS. Prove the row's statement (the work); the ties are given (YbulkdugeFmtTie.lean); close each card by the builder's one call (the guide's Derived/Test/ToyasCard.lean, 'card_holds'). Laid BY PROGRAM, IN A SANDBOX (cutbox-door.mjs). By AI agents, Wed Nov 11 2026. No macro, syntax, notation, axiom, sorry.
-/
import Derived.Test.YbulkdugeFmtRows
import GoSem.ClaimSeven
namespace Go.Proofs.YbulkdugeFmt
namespace Rows

/-- THE TOLD CARD OF 'quorate.LawS6049BIds'. -/
def lawS6049BIdsCard : Claim7 := { stood := { row := lawS6049BIdsRow, standIns := [], harness := (true, "dd4442888efa3bf9d3f5bbba2edeaa22b6dd7c4efaad5322fed627b985fe2b5a"), looks := false }, told := true, goes := false }
def LawS6049BIdsToldSaid : Prop := Claim7.holds Ybaf.pinned (.plain (OpenSpec.ofChange lawS6049BIdsSpec)) lawS6049BIdsCard
/-- ITS FALSE NEIGHBOUR. Refute it at one input. -/
def LawS6049BIdsToldWrongFalsely : Prop := Claim7.holds Ybaf.pinned (.plain (OpenSpec.ofChange lawS6049BIdsWrong)) lawS6049BIdsCard
end Rows
end Go.Proofs.YbulkdugeFmt
