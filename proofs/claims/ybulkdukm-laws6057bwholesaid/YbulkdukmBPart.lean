/-
  A BODY PARTED BEHIND ITS n-TH STATEMENT, SO THAT A LONG WALK GOES IN PARTS (law B).
-/
import Derived.Test.YbulkdukmBStop
namespace Go.Proofs.Ybulkdukm
open Go.RowKit
set_option linter.unusedVariables false

/-- What is left behind n statements. -/
def after : Nat → Code → Code
  | 0, c => c
  | n + 1, .seq _ b => after n b
  | _ + 1, c => c
/-- The first n statements, then C. -/
def cutAt : Nat → Code → Code → Code
  | 0, _, C => C
  | n + 1, .seq a b, C => .seq a (cutAt n b C)
  | _ + 1, _, C => C
theorem cutAt_after : ∀ (n : Nat) (c : Code), cutAt n c (after n c) = c
  | 0, c => rfl
  | n + 1, c => by
    cases c with
    | seq a b =>
      show Code.seq a (cutAt n b (after n b)) = Code.seq a b
      rw [cutAt_after n b]
    | _ => rfl
/-- The law's body. -/
noncomputable def b4 : Code := match Yba.f4.body with
  | some c => c
  | none => .skip

end Go.Proofs.Ybulkdukm
