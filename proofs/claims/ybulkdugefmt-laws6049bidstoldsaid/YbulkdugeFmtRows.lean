/-
  No cell of these rows narrows 'for every input' (looked for: loops, veiled, ifaces, maps, wideKeys, modest, calm, conditions, laid).
  DERIVED. THE GIVEN ROWS OF THIS SEAT. 1 by the template 'for every input the law returns true; each argument reads behind the call as it read before'; 0 by the template 'total and deterministic' (their statements: YbulkdugeFmtTotals.lean).
  GIVEN WITH THE SEED: the statements are not yours to turn. If you find one false, say at which input.
  Laid BY PROGRAM, IN A SANDBOX (cutbox-rows.mjs): the forced cells as the released guide's own fill.sh prints them over the translation d0f2cde2b62858e6… (all of the seat's roots in one cut). By AI agents, Wed Nov 11 2026. No macro, syntax, notation, axiom, sorry.
-/
import Derived.Test.YbulkdugeFmtChecked
import GoSem.Claim
import GoSem.ClaimJoined
import GoSem.ClaimMapViews
import Derived.JoinedTies
import Derived.KernelRfl
namespace Go.Proofs.YbulkdugeFmt
/- THE CELL 'sum', in the pinned program and in every row, IS THE sha256 OF THE DUMP (.gsa) THAT YbulkdugeFmtProg.lean LOADS. Nothing in Lean hashes anything: it is a label: what it is worth is what the hold of that sum in a sandbox is worth. -/
noncomputable def Ybaf.pinned : Pinned := { name := "ybulkdugefmt", sum := "d0f2cde2b62858e682240ca0f5f29a618ee50afb150fa6137d27ef2a07ac2a70", checked := Ybaf.checked }
namespace Rows
def none {H : Type} : Left H := { results := [], args := [] }

/-- 'quorate.LawS6049BIds': WHATEVER THE INPUT: true; the input reads as it did. -/
def lawS6049BIdsSpec : ChangeSpec := { name := "lawS6049BIds", fn := fun _ => fun
  | [d1, d2] => { results := [.lit (.bool true)], args := [d1, d2] }
  | _ => none }
def lawS6049BIdsRow : OpenClaim := { program := "ybulkdugefmt", sum := "d0f2cde2b62858e682240ca0f5f29a618ee50afb150fa6137d27ef2a07ac2a70", func := "example.com/quorate/quorate.LawS6049BIds", spec := "lawS6049BIds", stops := ["fmt.Sprintf"], inPlace := ["fmt.Sprintf"], apart := false }
/-- NO THEOREM (fmt's text is open here; it may be false): for the released tool's asking of the row's closed facts alone. THE STATEMENT IS 'LawS6049BIdsToldSaid' (YbulkdugeFmtCards.lean). -/
def LawS6049BIdsFormAsk : Prop := lawS6049BIdsRow.holds Ybaf.pinned (OpenSpec.ofChange lawS6049BIdsSpec)

/-- ITS FALSE NEIGHBOUR: 'it returns false'. Refute it at one input. -/
def lawS6049BIdsWrong : ChangeSpec := { name := "lawS6049BIds", fn := fun _ => fun
  | [d1, d2] => { results := [.lit (.bool false)], args := [d1, d2] }
  | _ => none }
def LawS6049BIdsWrongFormAsk : Prop := lawS6049BIdsRow.holds Ybaf.pinned (OpenSpec.ofChange lawS6049BIdsWrong)

end Rows
end Go.Proofs.YbulkdugeFmt
