/-
  No cell of these rows narrows 'for every input' (looked for: loops, veiled, ifaces, maps, wideKeys, modest, calm, conditions, laid).
  DERIVED. THE GIVEN ROWS OF THIS SEAT. 1 by the template 'for every input the law returns true; each argument reads behind the call as it read before'; 0 by the template 'total and deterministic' (their statements: YbulkduloTotals.lean).
  GIVEN WITH THE SEED: the statements are not yours to turn. If you find one false, say at which input.
  Laid BY PROGRAM, IN A SANDBOX (cutbox-rows.mjs): the forced cells as the released guide's own fill.sh prints them over the translation 2e94436da5c51376… (all of the seat's roots in one cut). By AI agents, Wed Nov 11 2026. No macro, syntax, notation, axiom, sorry.
-/
import Derived.Test.YbulkduloChecked
import GoSem.Claim
import GoSem.ClaimJoined
import GoSem.ClaimMapViews
import Derived.JoinedTies
import Derived.KernelRfl
namespace Go.Proofs.Ybulkdulo
/- THE CELL 'sum', in the pinned program and in every row, IS THE sha256 OF THE DUMP (.gsa) THAT YbulkduloProg.lean LOADS. Nothing in Lean hashes anything: it is a label: what it is worth is what the hold of that sum in a sandbox is worth. -/
noncomputable def Yba.pinned : Pinned := { name := "ybulkdulo", sum := "2e94436da5c513761b31056a89b41c1003fb0be02f9ecee2b2fecdec3f29e6bb", checked := Yba.checked }
namespace Rows
def none {H : Type} : Left H := { results := [], args := [] }

/-- 'aces.LawS6059BWhole': WHATEVER THE INPUT: true; the input reads as it did. -/
def lawS6059BWholeSpec : ChangeSpec := { name := "lawS6059BWhole", fn := fun _ => fun
  | [d1, d2] => { results := [.lit (.bool true)], args := [d1, d2] }
  | _ => none }
def lawS6059BWholeRow : OpenClaim := { program := "ybulkdulo", sum := "2e94436da5c513761b31056a89b41c1003fb0be02f9ecee2b2fecdec3f29e6bb", func := "example.com/promptwire/promptwire/aces.LawS6059BWhole", spec := "lawS6059BWhole", apart := false }
def LawS6059BWholeSaid : Prop := lawS6059BWholeRow.holds Yba.pinned (OpenSpec.ofChange lawS6059BWholeSpec)

/-- ITS FALSE NEIGHBOUR: 'it returns false'. Refute it at one input. -/
def lawS6059BWholeWrong : ChangeSpec := { name := "lawS6059BWhole", fn := fun _ => fun
  | [d1, d2] => { results := [.lit (.bool false)], args := [d1, d2] }
  | _ => none }
def LawS6059BWholeWrongFalsely : Prop := lawS6059BWholeRow.holds Yba.pinned (OpenSpec.ofChange lawS6059BWholeWrong)

end Rows
end Go.Proofs.Ybulkdulo
