/-
  No cell of these rows narrows 'for every input' (looked for: loops, veiled, ifaces, maps, wideKeys, modest, calm, conditions, laid).
  DERIVED. THE GIVEN ROWS OF THIS SEAT. 3 by the template 'for every input the law returns true; each argument reads behind the call as it read before'; 0 by the template 'total and deterministic' (their statements: YbulkdugeTotals.lean).
  GIVEN WITH THE SEED: the statements are not yours to turn. If you find one false, say at which input.
  Laid BY PROGRAM, IN A SANDBOX (cutbox-rows.mjs): the forced cells as the released guide's own fill.sh prints them over the translation 41716d87a87cdf25… (all of the seat's roots in one cut). By AI agents, Wed Nov 11 2026. No macro, syntax, notation, axiom, sorry.
-/
import Derived.Test.YbulkdugeChecked
import GoSem.Claim
import GoSem.ClaimJoined
import GoSem.ClaimMapViews
import Derived.JoinedTies
import Derived.KernelRfl
namespace Go.Proofs.Ybulkduge
/- THE CELL 'sum', in the pinned program and in every row, IS THE sha256 OF THE DUMP (.gsa) THAT YbulkdugeProg.lean LOADS. Nothing in Lean hashes anything: it is a label: what it is worth is what the hold of that sum in a sandbox is worth. -/
noncomputable def Yba.pinned : Pinned := { name := "ybulkduge", sum := "41716d87a87cdf25ef17582d43045ded034765b4597af6a8d1175eb52435f2f6", checked := Yba.checked }
namespace Rows
def none {H : Type} : Left H := { results := [], args := [] }

/-- 'quorate.LawS6049AWhole': WHATEVER THE INPUT: true; the input reads as it did. -/
def lawS6049AWholeSpec : ChangeSpec := { name := "lawS6049AWhole", fn := fun _ => fun
  | [d1, d2, d3] => { results := [.lit (.bool true)], args := [d1, d2, d3] }
  | _ => none }
def lawS6049AWholeRow : OpenClaim := { program := "ybulkduge", sum := "41716d87a87cdf25ef17582d43045ded034765b4597af6a8d1175eb52435f2f6", func := "example.com/quorate/quorate.LawS6049AWhole", spec := "lawS6049AWhole", unfollowed := true, recurses := true, apart := false }
def LawS6049AWholeSaid : Prop := lawS6049AWholeRow.holds Yba.pinned (OpenSpec.ofChange lawS6049AWholeSpec)

/-- ITS FALSE NEIGHBOUR: 'it returns false'. Refute it at one input. -/
def lawS6049AWholeWrong : ChangeSpec := { name := "lawS6049AWhole", fn := fun _ => fun
  | [d1, d2, d3] => { results := [.lit (.bool false)], args := [d1, d2, d3] }
  | _ => none }
def LawS6049AWholeWrongFalsely : Prop := lawS6049AWholeRow.holds Yba.pinned (OpenSpec.ofChange lawS6049AWholeWrong)

/-- 'quorate.LawS6049BWhole': WHATEVER THE INPUT: true; the input reads as it did. -/
def lawS6049BWholeSpec : ChangeSpec := { name := "lawS6049BWhole", fn := fun _ => fun
  | [d1, d2] => { results := [.lit (.bool true)], args := [d1, d2] }
  | _ => none }
def lawS6049BWholeRow : OpenClaim := { program := "ybulkduge", sum := "41716d87a87cdf25ef17582d43045ded034765b4597af6a8d1175eb52435f2f6", func := "example.com/quorate/quorate.LawS6049BWhole", spec := "lawS6049BWhole", apart := false }
def LawS6049BWholeSaid : Prop := lawS6049BWholeRow.holds Yba.pinned (OpenSpec.ofChange lawS6049BWholeSpec)

/-- ITS FALSE NEIGHBOUR: 'it returns false'. Refute it at one input. -/
def lawS6049BWholeWrong : ChangeSpec := { name := "lawS6049BWhole", fn := fun _ => fun
  | [d1, d2] => { results := [.lit (.bool false)], args := [d1, d2] }
  | _ => none }
def LawS6049BWholeWrongFalsely : Prop := lawS6049BWholeRow.holds Yba.pinned (OpenSpec.ofChange lawS6049BWholeWrong)

/-- 'quorate.LawS6049CWhole': WHATEVER THE INPUT: true; the input reads as it did. -/
def lawS6049CWholeSpec : ChangeSpec := { name := "lawS6049CWhole", fn := fun _ => fun
  | [d1, d2, d3] => { results := [.lit (.bool true)], args := [d1, d2, d3] }
  | _ => none }
def lawS6049CWholeRow : OpenClaim := { program := "ybulkduge", sum := "41716d87a87cdf25ef17582d43045ded034765b4597af6a8d1175eb52435f2f6", func := "example.com/quorate/quorate.LawS6049CWhole", spec := "lawS6049CWhole", inPlace := ["(*internal/sync.Mutex).Lock", "internal/race.Disable", "sync/atomic.CompareAndSwapInt32", "internal/race.Enable", "internal/race.Acquire", "(*internal/sync.Mutex).lockSlow", "internal/sync.runtime_canSpin", "internal/sync.runtime_doSpin", "internal/sync.throw", "internal/sync.runtime_nanotime", "internal/sync.runtime_SemacquireMutex", "sync/atomic.AddInt32", "(*internal/sync.Mutex).Unlock", "internal/race.ReleaseMerge", "(*internal/sync.Mutex).unlockSlow", "internal/sync.fatal", "internal/sync.runtime_Semrelease"], unfollowed := true, recurses := true, apart := false }
def LawS6049CWholeSaid : Prop := lawS6049CWholeRow.holds Yba.pinned (OpenSpec.ofChange lawS6049CWholeSpec)

/-- ITS FALSE NEIGHBOUR: 'it returns false'. Refute it at one input. -/
def lawS6049CWholeWrong : ChangeSpec := { name := "lawS6049CWhole", fn := fun _ => fun
  | [d1, d2, d3] => { results := [.lit (.bool false)], args := [d1, d2, d3] }
  | _ => none }
def LawS6049CWholeWrongFalsely : Prop := lawS6049CWholeRow.holds Yba.pinned (OpenSpec.ofChange lawS6049CWholeWrong)

end Rows
end Go.Proofs.Ybulkduge
